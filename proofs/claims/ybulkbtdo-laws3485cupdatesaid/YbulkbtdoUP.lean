/-
  setup.
-/
import Derived.Test.YbulkbtdoUO
namespace Go.Proofs.Ybulkbtdo.U
open Go.RowKit
set_option maxRecDepth 100000
def InAt (w : World) (a : Option Addr) (n : Nat) (b : Nat → Bool) : Prop := ∀ k, k < n → ∃ g o, a = some ⟨g, o, none⟩ ∧ w.cell? ⟨g, o + k, none⟩ = some (.bool (b k))
def memAt (li : Nat) (b : Nat → Bool) (i k : Nat) : Bool := decide (k < i) && (decide (k < li) && b k)
theorem or_bit (v b : Nat) (hv : v < 18446744073709551616) (hb : b < 64) : bits .or .u64 (v : Int) (IntKind.u64.wrap (2 ^ b)) = ((v ||| 2 ^ b : Nat) : Int) ∧ v ||| 2 ^ b < 18446744073709551616 := by
  obtain ⟨hw, hp⟩ := wrap_pow b hb
  rw [hw]
  exact ⟨bits_or_u64_nat v (2 ^ b) hv hp, Nat.or_lt_two_pow (n := 64) hv hp⟩
theorem step_bit {li i n : Nat} {b : Nat → Bool} {V : Nat → Nat} (hb : i < li ∧ b i = true) (h : ∀ k, k < n → (V (k / 64)).testBit (k % 64) = memAt li b i k) : ∀ k, k < n → ((fun j => if j = i / 64 then V (i / 64) ||| 2 ^ (i % 64) else V j) (k / 64)).testBit (k % 64) = memAt li b (i + 1) k := by
  intro k hk
  show (if k / 64 = i / 64 then V (i / 64) ||| 2 ^ (i % 64) else V (k / 64)).testBit (k % 64) = _
  have hk0 := h k hk
  by_cases e : k / 64 = i / 64
  · rw [if_pos e, Nat.testBit_or, Nat.testBit_two_pow, ← e, hk0]
    by_cases e2 : k = i
    · subst e2
      simp [memAt, hb.1, hb.2]
    · have : ¬ i % 64 = k % 64 := by omega
      unfold memAt
      rw [decide_eq_false this, Bool.or_false]
      congr 1
      exact decide_eq_decide.2 (by omega)
  · rw [if_neg e, hk0]
    unfold memAt
    congr 1
    exact decide_eq_decide.2 (by have : k ≠ i := fun e' => e (by rw [e']); omega)
theorem skip_bit {li i : Nat} {b : Nat → Bool} (hb : ¬ (i < li ∧ b i = true)) (k : Nat) : memAt li b (i + 1) k = memAt li b i k := by
  unfold memAt
  by_cases e : k = i
  · subst e
    have : (decide (k < li) && b k) = false := by
      rw [← Bool.not_eq_true, Bool.and_eq_true]
      intro h
      exact hb ⟨of_decide_eq_true h.1, h.2⟩
    rw [this]
    simp
  · congr 1
    exact decide_eq_decide.2 (by omega)
def X0 : Cur := { lv := fun _ => .slice none 0 0, vr := .slice none 0 0, R := [], Le := fun _ => [], lo := fun _ => 0, lw := fun _ => 0 }
theorem tree0 {w : World} {G : Geo} {N : Nat → Am} {nv : Nat → Value} {al : Bool} (ok : GeoOk G) (sz : ∀ b, w.heap.size ≤ b → G.ow b) {f : Nat → Value} (hT : RowIs w G.T 51 12 f) (e0 : f 0 = .int .i64 (G.size : Int)) (e1 : f 1 = .slice none 0 0) (e3 : f 3 = .slice (some ⟨G.GN, 0, none⟩) G.n G.n) (e4 : f 4 = .slice (some ⟨G.GL, 0, none⟩) (G.size - 1) (G.size - 1)) (e5 : f 5 = .slice (some ⟨G.GW, 0, none⟩) ((G.size - 1) * 8) ((G.size - 1) * 8)) (e6 : f 6 = .slice (some ⟨G.GO, 0, none⟩) (G.size - 1) (G.size - 1)) (e10 : f 10 = .slice none 0 0) (e11 : f 11 = .bool al) (e2 : ∀ k, k = 2 ∨ k = 7 ∨ k = 8 ∨ k = 9 → ∃ a n c, f k = .slice a n c)
    (hN : RowIs w G.GN 49 G.n nv) (hna : ∀ i, i < G.n → AmV w (nv i) (N i)) (hnb : ∀ i, i < G.n → ∀ b, (nv i).ownBlock = some b → ¬ Dt G b) (hno : ∀ i, i < G.n → AmOk (N i)) (hL : RowIs w G.GL 49 (G.size - 1) (fun _ => .slice none 0 0)) (hW : RowIs w G.GW 21 ((G.size - 1) * 8) (fun _ => .int .i32 0)) (hO : RowIs w G.GO 5 (G.size - 1) (fun _ => .int .u8 0)) : Tree w G N nv al X0 :=
  ⟨ok, sz, ⟨f, hT, e0, e1, e3, e4, e5, e6, e10, e11⟩, hN, hna, hnb, hno, hL, (fun _ _ => OwnG.nil _ _), (fun _ _ => ⟨fun i j p q _ hp => by simp [X0] at hp, fun i p hp => by simp [X0] at hp, by simp [X0]⟩), OwnG.nil _ _, (fun _ _ b hb => by cases hb), hO, hW, (fun _ _ => by simp [X0]), (fun _ j _ _ hj => by simp [X0] at hj), (fun k hk => by
    obtain ⟨a, n, c, h1⟩ := e2 k hk
    exact ⟨a, n, c, by rw [hT.cell (i := k) (by omega), h1]⟩)⟩
theorem results_four {fn : Func} {p q u v : Tmp} {ty ty' : TypeId} (h : fn.results = #[.cell p ty, .cell q ty', .tmp u, .tmp v]) (tmps : Array Value) (P : Program) (w : World) :
    (results fn tmps).run P w = ((asAddr (tmps.getD p undef)).run P w).andThen fun a w₁ => ((loadVar ty a).run P w₁).andThen fun x w₂ => ((asAddr (tmps.getD q undef)).run P w₂).andThen fun a' w₃ => ((loadVar ty' a').run P w₃).andThen fun y w₄ => .ok (.tuple #[x, y, tmps.getD u undef, tmps.getD v undef]) w₄ := by
  simp only [results, h]
  simp [Sem.run_bind, Result.andThen]
theorem Tree.far {w w' : World} {G : Geo} {N : Nat → Am} {nv : Nat → Value} {al : Bool} {X : Cur} {D : Nat → Prop} (h : Tree w G N nv al X) (hc : Chg D w w') (hD : ∀ b, D b → b ≠ G.T ∧ b ≠ G.GN ∧ b ≠ G.GL ∧ b ≠ G.GW ∧ b ≠ G.GO ∧ ¬ G.ow b) (hd : ∀ i, i < G.n → ∀ b, (nv i).ownBlock = some b → ¬ D b) : Tree w' G N nv al X := by
  obtain ⟨f, hf, r⟩ := h.tr
  have own : ∀ {v : Value} {L : Am}, OwnG w G v L → ∀ b, v.ownBlock = some b → ¬ D b := fun ho b hb hDb => (hD b hDb).2.2.2.2.2 (ho.ge b hb).1
  exact ⟨h.ok, fun b hb => h.sz b (Nat.le_trans hc.size hb), ⟨f, hf.chg hc (fun e => (hD _ e).1 rfl), r⟩, h.nr.chg hc (fun e => (hD _ e).2.1 rfl), fun i hi => (h.na i hi).chg hc (hd i hi), h.nb, h.no, h.lr.chg hc (fun e => (hD _ e).2.2.1 rfl), fun k hk => (h.la k hk).chg hc (own (h.la k hk)), h.lok, h.rr.chg hc (own h.rr), h.ss, h.or.chg hc (fun e => (hD _ e).2.2.2.2.1 rfl), h.wr.chg hc (fun e => (hD _ e).2.2.2.1 rfl), h.o9, h.w8, fun k hk => by
    obtain ⟨a, n, c, h1⟩ := h.tx k hk
    exact ⟨a, n, c, hc.cell h1 (fun e => (hD _ e).1 rfl)⟩⟩
/-- what setup hands back -/
def SetUp (w : World) (n : Nat) (mem : Nat → Bool) (al : Bool) (e : Ending) (w' : World) : Prop :=
  ∃ (G : Geo) (N : Nat → Am) (nv : Nat → Value) (X : Cur) (SB MB LB l1 c1 : Nat) (f : Nat → Value), e = .returned (.tuple #[.agg #[f 0, f 1, f 2, f 3, f 4, f 5, f 6, f 7, f 8, f 9, f 10, f 11], .agg #[.slice (some ⟨LB, 0, none⟩) l1 c1, .int .i64 0], .slice (some ⟨G.GN, 0, none⟩) n n, .slice (some ⟨MB, 0, none⟩) n n]) ∧
    G.n = n ∧ Tree w' G N nv al X ∧ RowIs w' G.T 51 12 f ∧ SetAt w' G SB mem ∧ w'.cell? ⟨SB, 0, none⟩ = some (.slice (some ⟨LB, 0, none⟩) l1 c1) ∧ RowIs w' MB 4 n (fun k => .bool (mem k)) ∧ ¬ Dt G MB ∧ New w w' ∧ (∃ K, G.size = 2 ^ K ∧ K ≤ 8) ∧ (∀ r, 1 ≤ r → r < G.size → Good G N mem al X r) ∧ w.heap.size ≤ MB ∧
    ∃ (WB words : Nat) (V : Nat → Nat), w'.cell? ⟨LB, 0, none⟩ = some (.slice (some ⟨WB, 0, none⟩) words words) ∧ 0 < l1 ∧ RowIs w' WB 61 words (fun j => .int .u64 (V j : Int)) ∧ (∀ j, j < words → V j < 18446744073709551616) ∧ n ≤ 64 * words ∧ (∀ k, k < n → (V (k / 64)).testBit (k % 64) = mem k) ∧ ¬ Dt G LB ∧ ¬ Dt G WB ∧ LB ≠ WB ∧ LB ≠ MB ∧ WB ≠ MB ∧ w.heap.size ≤ WB ∧ ∀ k, k < w.heap.size → ¬ Dt G k
set_option maxHeartbeats 8000000 in
theorem setup_any (a : Option Addr) (n c : Nat) (ra : Nat → Option Addr) (rl rc : Nat → Nat) (x : Nat → Nat → Nat) (ai : Option Addr) (li ci : Nat) (b : Nat → Bool) (al : Bool) (w : World) (h : RawAt w a n ra rl rc) (hx : U16At w n ra rl x) (hn : n ≤ 256) (hl : ∀ i, i < n → rl i ≤ 256) (hi : InAt w ai li b) (hli : li ≤ 9223372036854775807) :
    Calls Yba.prog 8 #[.slice a n c, .slice ai li ci, .bool al] w (SetUp w n (memAt li b n) al) := by
  have H : Hid (RawAt w a n ra rl rc) := h
  have HX : Hid (U16At w n ra rl x) := hx
  have HL : Hid (∀ i, i < n → rl i ≤ 256) := hl
  have HI : Hid (InAt w ai li b) := hi
  clear h hx hl hi
  obtain ⟨w1, hw1⟩ : ∃ w1, w1 = (w.alloc (.cells #[.int .i64 0, .slice none 0 0, .slice none 0 0, .slice none 0 0, .slice none 0 0, .slice none 0 0, .slice none 0 0, .slice none 0 0, .slice none 0 0, .slice none 0 0, .slice none 0 0, .bool false] 51)).alloc (.cells #[.slice none 0 0, .int .i64 0] 54) := ⟨_, rfl⟩
  have HN1 : Hid (New w w1) := by
    show New w w1
    rw [hw1]; exact ((Chg.refl _ w).alloc _).alloc _
  have HR6 : Hid (∃ f, RowIs w1 w.heap.size 51 12 f) := by
    show ∃ f, RowIs w1 w.heap.size 51 12 f
    rw [hw1]
    exact ⟨_, (RowIs.made w _ 51).chg ((Chg.refl (fun _ => False) _).alloc _) (fun h => h)⟩
  have HR7 : Hid (∃ f, RowIs w1 (w.heap.size + 1) 54 2 f) := by
    have := RowIs.made (w.alloc (.cells #[.int .i64 0, .slice none 0 0, .slice none 0 0, .slice none 0 0, .slice none 0 0, .slice none 0 0, .slice none 0 0, .slice none 0 0, .slice none 0 0, .slice none 0 0, .slice none 0 0, .bool false] 51)) #[.slice none 0 0, .int .i64 0] 54
    rw [← hw1] at this
    have e : (w.alloc (.cells #[.int .i64 0, .slice none 0 0, .slice none 0 0, .slice none 0 0, .slice none 0 0, .slice none 0 0, .slice none 0 0, .slice none 0 0, .slice none 0 0, .slice none 0 0, .slice none 0 0, .bool false] 51)).heap.size = w.heap.size + 1 := by simp
    rw [e] at this
    exact ⟨_, this⟩
  have HBU : Hid (Calls Yba.prog 11 #[.slice a n c] w1 (Built w1 n)) := build_any a n c ra rl rc x w1 (fun i hi => by
      obtain ⟨g, o, e, hc⟩ := H.out i hi
      exact ⟨g, o, e, HN1.out.cell hc (fun h => h)⟩) (fun i hi j hj => by
      obtain ⟨g, o, e, hc, hx⟩ := HX.out i hi j hj
      exact ⟨g, o, e, HN1.out.cell hc (fun h => h), hx⟩) hn HL.out
  go_enter Yba.func8, Yba.ntmps8
  go_wp2_with fail
  rw [← hw1]
  refine HBU.out.mono ?_
  rintro e w2 ⟨GN, nv, N, rfl, hGN, hn2, hrowN, hneed⟩
  have HN2 : Hid (New w1 w2) := hn2
  have HROWN : Hid (RowIs w2 GN 49 n nv) := hrowN
  have HNEED : Hid (∀ i, i < n → AmV w2 (nv i) (N i) ∧ AmOk (N i) ∧ ∀ b, (nv i).ownBlock = some b → w1.heap.size ≤ b ∧ b < w2.heap.size) := hneed
  have HGNl : Hid (w1.heap.size ≤ GN ∧ GN < w2.heap.size) := ⟨hGN, hrowN.lt⟩
  clear hn2 hrowN hneed hGN HBU hw1
  go_wp2
  go_loopw [12] (fun s12 wr => ∃ k : Nat, s12 = .int .i64 ((2 ^ k : Nat) : Int) ∧ k ≤ 8 ∧ w2 = wr) (fun s12 _ => 512 - (intOf s12).toNat)
  case atStart => exact ⟨0, rfl, by decide, rfl⟩
  case round =>
    obtain ⟨k, rfl, hk, rfl⟩ := hrel
    obtain ⟨sz, hsz⟩ : ∃ sz, sz = 2 ^ k := ⟨_, rfl⟩
    have hsz1 : 1 ≤ sz ∧ sz ≤ 256 := by
      rw [hsz]
      exact ⟨Nat.two_pow_pos k, Nat.le_trans (Nat.pow_le_pow_right (by decide) hk) (by decide)⟩
    rw [← hsz]
    have HSZ : Hid (sz = 2 ^ k) := hsz
    clear hsz
    by_cases hlt : sz < n
    · have HK : Hid (sz * 2 = 2 ^ (k + 1) ∧ k + 1 ≤ 8) := by
        refine ⟨by rw [HSZ.out, Nat.pow_succ], ?_⟩
        by_cases e : k = 8
        · have := HSZ.out
          rw [e] at this
          have h256 : (2 : Nat) ^ 8 = 256 := by decide
          omega
        · omega
      go_wp2_with fail
      go_roundw
      case rel => exact ⟨k + 1, by rw [← HK.out.1]; simp, HK.out.2, by first | rfl | trivial⟩
      case measure => simp [intOf]; omega
    · have HSN : Hid (n ≤ sz) := by show n ≤ sz; omega
      obtain ⟨oB, hB, rB⟩ := made_row Yba.underlying43 (show (Yba.prog.info? 4).map (fun i => (i.zero, i.size, i.bytes)) = some (some (.bool false), 1, 1) by kernel_rfl) rfl n (by decide) (by omega)
      have HRB : Hid (RowIs (w2.alloc oB) w2.heap.size 4 n (fun _ => .bool false)) := rB w2
      have HN3 : Hid (New w2 (w2.alloc oB)) := (Chg.refl _ w2).alloc _
      have HS3 : Hid ((w2.alloc oB).heap.size = w2.heap.size + 1) := by show _ = _; simp
      clear rB
      go_wp2_with fail
      generalize hw3 : w2.alloc oB = w3 at *
      clear hw3
      refine (newIndexSet_any n w3 hn).mono ?_
      rintro e w4 ⟨LB, l1, c1, WB, words, rfl, hl1, hcLB, hn64, hrowW, hn4, hLB, hWB, hLW, hLBl⟩
      have HN4 : Hid (New w3 w4) := hn4
      have HRW : Hid (RowIs w4 WB 61 words (fun _ => .int .u64 0)) := hrowW
      have HCL : Hid (w4.cell? ⟨LB, 0, none⟩ = some (.slice (some ⟨WB, 0, none⟩) words words)) := hcLB
      have HLT : Hid (w3.heap.size ≤ LB ∧ w3.heap.size ≤ WB ∧ LB ≠ WB ∧ LB < w4.heap.size ∧ WB < w4.heap.size ∧ 0 < l1 ∧ n ≤ 64 * words) := ⟨hLB, hWB, hLW, hLBl, hrowW.lt, hl1, hn64⟩
      have HRB4 : Hid (RowIs w4 w2.heap.size 4 n (fun _ => .bool false)) := HRB.out.chg hn4 (fun h => h)
      have HMB4 : Hid (w2.heap.size < w3.heap.size) := by show _ < _; rw [HS3.out]; omega
      clear hcLB hrowW hn4 hLB hWB hLW hLBl HRB
      have HN5 : Hid (New w4 (w4.alloc (.cells #[.slice (some ⟨LB, 0, none⟩) l1 c1, .int .i64 0] 54))) := (Chg.refl _ w4).alloc _
      have HRS : Hid (RowIs (w4.alloc (.cells #[.slice (some ⟨LB, 0, none⟩) l1 c1, .int .i64 0] 54)) w4.heap.size 54 2 (fun i => (#[.slice (some ⟨LB, 0, none⟩) l1 c1, .int .i64 0] : Array Value)[i]?.getD undef)) := RowIs.made w4 _ 54
      go_wp2
      generalize hw5 : w4.alloc (.cells #[.slice (some ⟨LB, 0, none⟩) l1 c1, .int .i64 0] 54) = w5 at *
      clear hw5
      generalize hSB : w4.heap.size = SB at *
      generalize hMB : w2.heap.size = MB at *
      have HSB : Hid (w4.heap.size = SB) := hSB
      have HMB : Hid (w2.heap.size = MB) := hMB
      clear hSB hMB hB
      have HBW5 : Hid (New w w5) := ((HN1.out.new HN2.out).new HN3.out).new (HN4.out.new HN5.out)
      have HLS : Hid (MB < w3.heap.size ∧ w3.heap.size ≤ LB ∧ w3.heap.size ≤ WB ∧ LB ≠ WB ∧ LB < SB ∧ WB < SB ∧ w.heap.size ≤ MB ∧ w.heap.size ≤ WB ∧ SB < w5.heap.size) := by
        have h1 := HLT.out
        have h3 := HMB4.out
        have h4 := (HN1.out.new HN2.out).size
        have h5 := HRS.out.lt
        have h6 := HMB.out
        refine ⟨h3, h1.1, h1.2.1, h1.2.2.1, h1.2.2.2.1, h1.2.2.2.2.1, by omega, by omega, h5⟩
      have HR50 : Hid (RowIs w5 MB 4 n (fun k => .bool (memAt li b 0 k))) := (HRB4.out.chg HN5.out (fun h => h)).ext fun k _ => by simp [memAt]
      have HW50 : Hid (RowIs w5 WB 61 words (fun j => .int .u64 (((fun _ => 0 : Nat → Nat) j : Nat) : Int))) := HRW.out.chg HN5.out (fun h => h)
      have HC5 : Hid (w5.cell? ⟨LB, 0, none⟩ = some (.slice (some ⟨WB, 0, none⟩) words words)) := HN5.out.cell HCL.out (fun h => h)
      have HS5 : Hid (w5.cell? ⟨SB, 0, none⟩ = some (.slice (some ⟨LB, 0, none⟩) l1 c1)) := HRS.out.cell (i := 0) (by decide)
      go_loopw [15] (fun s15 wr => ∃ (i : Nat) (V : Nat → Nat), s15 = .int .i64 (i : Int) ∧ i ≤ n ∧ Chg (fun k => k = MB ∨ k = WB) w5 wr ∧ RowIs wr MB 4 n (fun k => .bool (memAt li b i k)) ∧ RowIs wr WB 61 words (fun j => .int .u64 (V j : Int)) ∧ (∀ j, j < words → V j < 18446744073709551616) ∧ ∀ k, k < n → (V (k / 64)).testBit (k % 64) = memAt li b i k) (fun s15 _ => n - (intOf s15).toNat)
      case atStart => exact ⟨0, fun _ => 0, rfl, Nat.zero_le _, Chg.refl _ _, HR50.out, HW50.out, fun j _ => by show (0 : Nat) < _; decide, fun k _ => by simp [memAt]⟩
      case round =>
        clear HR50 HW50
        obtain ⟨i, V, rfl, hin, hch, hrM, hrW, hV, hbit⟩ := hrel
        have HCH : Hid (Chg (fun k => k = MB ∨ k = WB) w5 wr) := hch
        have HRM : Hid (RowIs wr MB 4 n (fun k => .bool (memAt li b i k))) := hrM
        have HRWi : Hid (RowIs wr WB 61 words (fun j => .int .u64 (V j : Int))) := hrW
        have HV : Hid (∀ j, j < words → V j < 18446744073709551616) := hV
        have HBIT : Hid (∀ k, k < n → (V (k / 64)).testBit (k % 64) = memAt li b i k) := hbit
        have HNI : Hid (New w wr) := New.of_chg HBW5.out hch (fun b e => by have := HLS.out; omega)
        clear hch hrM hrW hV hbit
        by_cases hlt2 : i < n
        · by_cases hil : i < li
          · obtain ⟨gi, oi, hai, hci0⟩ := HI.out i hil
            have hci := HNI.out.cell hci0 (fun h => h)
            subst hai
            clear hci0
            have ti : decide ((i : Int) < (li : Int)) = true := decide_eq_true (by omega)
            cases hbi : b i with
            | true =>
              rw [hbi] at hci
              have hm0 := HRM.out.cell hlt2
              have hmf := HRM.out.frozen i
              have hw64 : i / 64 < words := by have := HLT.out.2.2.2.2.2.2; omega
              have HS1 : Hid (Chg (fun k => k = MB) wr (wr.setCell ⟨MB, i, none⟩ (.bool true))) := Chg.set (D := fun k => k = MB) (Chg.refl _ wr) (fun _ => rfl) _
              have HM1 : Hid (RowIs (wr.setCell ⟨MB, i, none⟩ (.bool true)) MB 4 n (fun k => if k = i then .bool true else .bool (memAt li b i k))) := HRM.out.set hlt2 _
              have HW1 : Hid (RowIs (wr.setCell ⟨MB, i, none⟩ (.bool true)) WB 61 words (fun j => .int .u64 (V j : Int))) := HRWi.out.chg HS1.out (by have := HLS.out; omega)
              have hSB : wr.cell? ⟨SB, 0, none⟩ = some (.slice (some ⟨LB, 0, none⟩) l1 c1) := HCH.out.cell HS5.out (by have := HLS.out; omega)
              have hLB : wr.cell? ⟨LB, 0, none⟩ = some (.slice (some ⟨WB, 0, none⟩) words words) := HCH.out.cell HC5.out (by have := HLS.out; omega)
              have HSB1 : Hid ((wr.setCell ⟨MB, i, none⟩ (.bool true)).cell? ⟨SB, 0, none⟩ = some (.slice (some ⟨LB, 0, none⟩) l1 c1)) := HS1.out.cell hSB (by have := HLS.out; omega)
              have HLB1 : Hid ((wr.setCell ⟨MB, i, none⟩ (.bool true)).cell? ⟨LB, 0, none⟩ = some (.slice (some ⟨WB, 0, none⟩) words words)) := HS1.out.cell hLB (by have := HLS.out; omega)
              clear hSB hLB
              have HBI : Hid (b i = true) := hbi
              go_upto_region 13 with fail
              generalize hws : wr.setCell ⟨MB, i, none⟩ (.bool true) = ws at *
              clear hws hci hm0 hmf
              have hs0 := HSB1.out
              have hl0 := HLB1.out
              have hv0 := HW1.out.cell hw64
              have hvf := HW1.out.frozen (i / 64)
              have hl1 := HLT.out.2.2.2.2.2.1
              obtain ⟨eor, hor⟩ := or_bit (V (i / 64)) (i % 64) (HV.out _ hw64) (Nat.mod_lt _ (by decide))
              have HEO : Hid (bits .or .u64 (V (i / 64) : Int) (IntKind.u64.wrap (2 ^ (i % 64))) = ((V (i / 64) ||| 2 ^ (i % 64) : Nat) : Int)) := eor
              have HOR : Hid (V (i / 64) ||| 2 ^ (i % 64) < 18446744073709551616) := hor
              have HCF : Hid (∀ u, Chg (fun k => k = MB ∨ k = WB) w5 (ws.setCell ⟨WB, i / 64, none⟩ u)) := fun u => Chg.set (D := fun k => k = MB ∨ k = WB) (HCH.out.trans HS1.out (fun _ _ e => .inl e)) (fun _ => .inr rfl) u
              have HMF : Hid (∀ u, RowIs (ws.setCell ⟨WB, i / 64, none⟩ u) MB 4 n (fun k => .bool (memAt li b (i + 1) k))) := fun u => (HM1.out.chg (Chg.set (D := fun k => k = WB) (Chg.refl _ ws) (fun _ => rfl) u) (by have := HLS.out; omega)).ext fun k _ => by
                by_cases e : k = i
                · subst e
                  simp [memAt, hil, HBI.out]
                · rw [if_neg e]
                  congr 1
                  unfold memAt
                  congr 1
                  exact decide_eq_decide.2 (by omega)
              have HWF : Hid (RowIs (ws.setCell ⟨WB, i / 64, none⟩ (.int .u64 (bits .or .u64 (V (i / 64) : Int) (IntKind.u64.wrap (2 ^ (i % 64)))))) WB 61 words (fun j => .int .u64 (((if j = i / 64 then V (i / 64) ||| 2 ^ (i % 64) else V j : Nat)) : Int))) := (HW1.out.set hw64 _).ext fun j _ => by
                by_cases e : j = i / 64
                · rw [if_pos e, if_pos e, HEO.out]
                · rw [if_neg e, if_neg e]
              have hmod : (i : Int) % 64 % 18446744073709551616 = (i : Int) % 64 := by omega
              clear eor hor hbi
              go_wp2_with fail
              go_roundw
              case rel =>
                refine ⟨i + 1, fun j => if j = i / 64 then V (i / 64) ||| 2 ^ (i % 64) else V j, by go_num, by omega, HCF.out _, HMF.out _, HWF.out, fun j hj => ?_, step_bit ⟨hil, HBI.out⟩ HBIT.out⟩
                show (if j = i / 64 then V (i / 64) ||| 2 ^ (i % 64) else V j) < _
                split
                · exact HOR.out
                · exact HV.out j hj
              case measure => simp [intOf]; omega
            | false =>
              rw [hbi] at hci
              have HSK : Hid (∀ k, memAt li b (i + 1) k = memAt li b i k) := skip_bit (fun h => by rw [hbi] at h; exact absurd h.2 (by simp))
              clear hbi
              go_wp2_with fail
              go_roundw
              case rel =>
                refine ⟨i + 1, V, by go_num, by omega, HCH.out, HRM.out.ext fun k _ => by rw [HSK.out k], HRWi.out, HV.out, fun k hk => by rw [HSK.out k]; exact HBIT.out k hk⟩
              case measure => simp [intOf]; omega
          · have ti : decide ((i : Int) < (li : Int)) = false := decide_eq_false (by omega)
            have HSK : Hid (∀ k, memAt li b (i + 1) k = memAt li b i k) := skip_bit (fun h => hil h.1)
            go_wp2_with fail
            go_roundw
            case rel =>
              refine ⟨i + 1, V, by go_num, by omega, HCH.out, HRM.out.ext fun k _ => by rw [HSK.out k], HRWi.out, HV.out, fun k hk => by rw [HSK.out k]; exact HBIT.out k hk⟩
            case measure => simp [intOf]; omega
        · have hii : i = n := by omega
          subst hii
          have em : ((sz : Nat) : Int) = ((sz - 1 : Nat) : Int) + 1 := by omega
          have HLTR : Hid (Calls Yba.prog 13 #[.slice (some ⟨GN, 0, none⟩) i i, .int .i64 (sz : Int)] wr (Made13 wr GN i (sz - 1))) := by
            show Calls _ _ _ _ _
            rw [em]; exact newLeastTree_any GN i (sz - 1) wr (by omega)
          clear em
          go_wp2_with fail
          refine HLTR.out.mono ?_
          rintro e w7 ⟨gL, gW, gO, gA, gB, rfl, hn7, bL, bW, bO, x1, x2, x3, rL, rW, rO⟩
          have HN7 : Hid (New wr w7) := hn7
          have HG7 : Hid (wr.heap.size ≤ gL ∧ wr.heap.size ≤ gW ∧ wr.heap.size ≤ gO ∧ gL ≠ gW ∧ gL ≠ gO ∧ gW ≠ gO ∧ gL < w7.heap.size ∧ gW < w7.heap.size ∧ gO < w7.heap.size) := ⟨bL, bW, bO, x1, x2, x3, rL.lt, rW.lt, rO.lt⟩
          have HRL : Hid (RowIs w7 gL 49 (sz - 1) (fun _ => .slice none 0 0)) := rL
          have HRWW : Hid (RowIs w7 gW 21 ((sz - 1) * 8) (fun _ => .int .i32 0)) := rW
          have HRO : Hid (RowIs w7 gO 5 (sz - 1) (fun _ => .int .u8 0)) := rO
          clear hn7 bL bW bO x1 x2 x3 rL rW rO HLTR
          have HR8 : Hid (RowIs (w7.alloc (.cells #[.int .i64 (((sz - 1 : Nat) : Int) + 1), .slice none 0 0, .slice none 0 0, .slice (some ⟨GN, 0, none⟩) i i, .slice (some ⟨gL, 0, none⟩) (sz - 1) (sz - 1), .slice (some ⟨gW, 0, none⟩) ((sz - 1) * 8) ((sz - 1) * 8), .slice (some ⟨gO, 0, none⟩) (sz - 1) (sz - 1), .slice (some ⟨gA, 0, none⟩) ((sz - 1) * 16) ((sz - 1) * 16), .slice (some ⟨gB, 0, none⟩) (sz - 1) (sz - 1), .slice none 0 0, .slice none 0 0, .bool al] 51)) w7.heap.size 51 12 (fun k => (#[.int .i64 (((sz - 1 : Nat) : Int) + 1), .slice none 0 0, .slice none 0 0, .slice (some ⟨GN, 0, none⟩) i i, .slice (some ⟨gL, 0, none⟩) (sz - 1) (sz - 1), .slice (some ⟨gW, 0, none⟩) ((sz - 1) * 8) ((sz - 1) * 8), .slice (some ⟨gO, 0, none⟩) (sz - 1) (sz - 1), .slice (some ⟨gA, 0, none⟩) ((sz - 1) * 16) ((sz - 1) * 16), .slice (some ⟨gB, 0, none⟩) (sz - 1) (sz - 1), .slice none 0 0, .slice none 0 0, .bool al] : Array Value)[k]?.getD undef)) := RowIs.made w7 _ 51
          have HN8 : Hid (New w7 (w7.alloc (.cells #[.int .i64 (((sz - 1 : Nat) : Int) + 1), .slice none 0 0, .slice none 0 0, .slice (some ⟨GN, 0, none⟩) i i, .slice (some ⟨gL, 0, none⟩) (sz - 1) (sz - 1), .slice (some ⟨gW, 0, none⟩) ((sz - 1) * 8) ((sz - 1) * 8), .slice (some ⟨gO, 0, none⟩) (sz - 1) (sz - 1), .slice (some ⟨gA, 0, none⟩) ((sz - 1) * 16) ((sz - 1) * 16), .slice (some ⟨gB, 0, none⟩) (sz - 1) (sz - 1), .slice none 0 0, .slice none 0 0, .bool al] 51))) := (Chg.refl _ w7).alloc _
          have HS8 : Hid ((w7.alloc (.cells #[.int .i64 (((sz - 1 : Nat) : Int) + 1), .slice none 0 0, .slice none 0 0, .slice (some ⟨GN, 0, none⟩) i i, .slice (some ⟨gL, 0, none⟩) (sz - 1) (sz - 1), .slice (some ⟨gW, 0, none⟩) ((sz - 1) * 8) ((sz - 1) * 8), .slice (some ⟨gO, 0, none⟩) (sz - 1) (sz - 1), .slice (some ⟨gA, 0, none⟩) ((sz - 1) * 16) ((sz - 1) * 16), .slice (some ⟨gB, 0, none⟩) (sz - 1) (sz - 1), .slice none 0 0, .slice none 0 0, .bool al] 51)).heap.size = w7.heap.size + 1) := by show _ = _; simp
          go_wp2
          generalize hw8 : w7.alloc (.cells #[.int .i64 (((sz - 1 : Nat) : Int) + 1), .slice none 0 0, .slice none 0 0, .slice (some ⟨GN, 0, none⟩) i i, .slice (some ⟨gL, 0, none⟩) (sz - 1) (sz - 1), .slice (some ⟨gW, 0, none⟩) ((sz - 1) * 8) ((sz - 1) * 8), .slice (some ⟨gO, 0, none⟩) (sz - 1) (sz - 1), .slice (some ⟨gA, 0, none⟩) ((sz - 1) * 16) ((sz - 1) * 16), .slice (some ⟨gB, 0, none⟩) (sz - 1) (sz - 1), .slice none 0 0, .slice none 0 0, .bool al] 51) = w8 at *
          clear hw8
          have HN78 : Hid (New wr w8) := HN7.out.new HN8.out
          have HLE : Hid (GN < MB ∧ MB < w3.heap.size ∧ w3.heap.size ≤ LB ∧ w3.heap.size ≤ WB ∧ LB < SB ∧ WB < SB ∧ SB < wr.heap.size ∧ wr.heap.size ≤ w7.heap.size) := by
            have h1 := HLS.out
            have h2 := HGNl.out
            have h3 := HMB.out
            have h4 := HCH.out.size
            have h5 := HN7.out.size
            refine ⟨by omega, by omega, by omega, by omega, by omega, by omega, by omega, h5⟩
          obtain ⟨G, hG⟩ : ∃ G : Geo, G = { ow := fun k => w7.heap.size + 1 ≤ k, T := w7.heap.size, GN := GN, GL := gL, GW := gW, GO := gO, n := i, size := sz } := ⟨_, rfl⟩
          have HOKG : Hid (GeoOk G) := by
            show GeoOk G
            have h1 := HLE.out
            have h2 := HG7.out
            have h3 := HSN.out
            rw [hG]
            exact ⟨hn, hsz1.1, hsz1.2, h3, by refine ⟨?_, ?_, ?_, ?_, ?_⟩ <;> simp <;> omega, by refine ⟨?_, ?_, ?_, ?_, ?_, ?_, ?_, ?_, ?_, ?_⟩ <;> simp <;> omega⟩
          have hDt : ∀ b, b < wr.heap.size → ¬ Dt G b := fun b hb => by
            have h1 := HLE.out
            have h2 := HG7.out
            rw [hG]
            unfold Dt
            simp
            omega
          have HDT : Hid (∀ b, b < wr.heap.size → ¬ Dt G b) := hDt
          have HTREE : Hid (Tree w8 G N nv al X0) := by
            have h2 : New w2 w5 := HN3.out.new (HN4.out.new HN5.out)
            have hle := HLE.out
            have hnG : ∀ j, j < i → AmV wr (nv j) (N j) := fun j hj => ((HNEED.out j hj).1.new h2).chg HCH.out (fun b hb e => by
              have := ((HNEED.out j hj).2.2 b hb).2
              have := HMB.out
              omega)
            have hNr : RowIs wr GN 49 i nv := (HROWN.out.chg h2 (fun h => h)).chg HCH.out (by omega)
            subst hG
            refine tree0 HOKG.out (fun b hb => by show w7.heap.size + 1 ≤ b; rw [← HS8.out]; exact hb) HR8.out ?_ rfl rfl rfl rfl rfl rfl rfl (fun k hk => by rcases hk with rfl | rfl | rfl | rfl <;> exact ⟨_, _, _, rfl⟩) (hNr.chg HN78.out (fun h => h)) (fun j hj => (hnG j hj).new HN78.out) (fun j hj b hb => hDt b ?_) (fun j hj => (HNEED.out j hj).2.1) (HRL.out.chg HN8.out (fun h => h)) (HRWW.out.chg HN8.out (fun h => h)) (HRO.out.chg HN8.out (fun h => h))
            · show Value.int .i64 (((sz - 1 : Nat) : Int) + 1) = .int .i64 (sz : Int)
              congr 1
              omega
            · have := ((HNEED.out j hj).2.2 b hb).2
              have := HMB.out
              omega
          have HSET : Hid (SetAt w8 G SB (memAt li b i)) := by
            have hle := HLE.out
            have hs0 := HCH.out.cell HS5.out (by omega)
            have hl0 := HCH.out.cell HC5.out (by have := HLS.out; omega)
            refine ⟨LB, WB, l1, c1, words, words, V, HN78.out.cell hs0 (fun h => h), HLT.out.2.2.2.2.2.1, HN78.out.cell hl0 (fun h => h), ?_, fun j hj => ⟨HN78.out.cell (HRWi.out.cell hj) (fun h => h), HV.out j hj⟩, ?_, hDt _ (by omega), hDt _ (by omega), hDt _ (by omega)⟩
            · rw [hG]; exact HLT.out.2.2.2.2.2.2
            · rw [hG]; exact HBIT.out
          have HGsz : Hid (G.size = sz ∧ G.n = i ∧ G.T = w7.heap.size ∧ G.GN = GN) := by show _ ∧ _ ∧ _ ∧ _; rw [hG]; exact ⟨rfl, rfl, rfl, rfl⟩
          clear hDt hG
          have HRSr : Hid (RowIs w8 SB 54 2 (fun i => (#[.slice (some ⟨LB, 0, none⟩) l1 c1, .int .i64 0] : Array Value)[i]?.getD undef)) := (HRS.out.chg HCH.out (by have := HLE.out; have := HLS.out; omega)).chg HN78.out (fun h => h)
          have h15 : New w1 w5 := HN2.out.new (HN3.out.new (HN4.out.new HN5.out))
          have HR68 : Hid (∃ f, RowIs w8 w.heap.size 51 12 f) := by
            obtain ⟨f, hf⟩ := HR6.out
            have h1 := hf.lt
            have h2 := HN2.out.size
            have h3 := HMB.out
            have h4 := HLE.out
            exact ⟨f, ((hf.chg h15 (fun h => h)).chg HCH.out (by omega)).chg HN78.out (fun h => h)⟩
          have HR78 : Hid (∃ f, RowIs w8 (w.heap.size + 1) 54 2 f) := by
            obtain ⟨f, hf⟩ := HR7.out
            have h1 := hf.lt
            have h2 := HN2.out.size
            have h3 := HMB.out
            have h4 := HLE.out
            exact ⟨f, ((hf.chg h15 (fun h => h)).chg HCH.out (by omega)).chg HN78.out (fun h => h)⟩
          have HRM8 : Hid (RowIs w8 MB 4 i (fun k => .bool (memAt li b i k))) := HRM.out.chg HN78.out (fun h => h)
          have HW8 : Hid (New w w8) := HNI.out.new HN78.out
          have HLOW : Hid (w.heap.size + 1 < wr.heap.size) := by
            obtain ⟨f, hf⟩ := HR7.out
            have h1 := hf.lt
            have h2 := HN2.out.size
            have h3 := HMB.out
            have h4 := HLE.out
            show _ < _
            omega
          clear h15
          go_loopw [17] (fun s17 wz => ∃ (r : Nat) (X : Cur), s17 = .int .i64 (r : Int) ∧ r < sz ∧ Tree wz G N nv al X ∧ Chg (Dt G) w8 wz ∧ ∀ q, r < q → q < sz → Good G N (memAt li b i) al X q) (fun s17 _ => (intOf s17).toNat)
          case atStart => exact ⟨sz - 1, X0, by congr 1; omega, by omega, HTREE.out, Chg.refl _ _, fun q h1 h2 => by omega⟩
          case round =>
            clear HTREE
            obtain ⟨r, X, rfl, hr, htr, hcz, hgood⟩ := hrel
            have HTR : Hid (Tree wr G N nv al X) := htr
            have HCZ : Hid (Chg (Dt G) w8 wr) := hcz
            have HGD : Hid (∀ q, r < q → q < sz → Good G N (memAt li b i) al X q) := hgood
            clear htr hcz hgood
            by_cases hr1 : 1 ≤ r
            · have HSM : Hid (Calls Yba.prog 10 #[.pointer (some ⟨w7.heap.size, 0, none⟩), .pointer (some ⟨SB, 0, none⟩), .int .i64 (r : Int)] wr (Summed wr G N nv al X (r - 1) (rangeIn G (memAt li b i) X (2 * r) || rangeIn G (memAt li b i) X (2 * r + 1)) (comb (rangeIn G (memAt li b i) X (2 * r)) (rangeIn G (memAt li b i) X (2 * r + 1)) (rangeLe G N (memAt li b i) X (2 * r)) (rangeLe G N (memAt li b i) X (2 * r + 1))))) := by
                show Calls _ _ _ _ _
                rw [← HGsz.out.2.2.1]
                exact sumNeeds_any G N nv al X SB r _ wr HTR.out (HSET.out.chg HCZ.out) hr1 (by rw [HGsz.out.1]; exact hr)
              go_wp2_with fail
              refine HSM.out.mono ?_
              intro e w9 hsum
              have hsum' := summed_good HTR.out.ok.s256 hr1 (by rw [HGsz.out.1]; exact hr) (fun h => HGD.out _ (by omega) (by rw [HGsz.out.1] at h; exact h)) (fun h => HGD.out _ (by omega) (by rw [HGsz.out.1] at h; exact h)) hsum
              obtain ⟨X', ⟨ch, rfl, _⟩, ht, hc, hk, hg⟩ := hsum'
              have HRL : Hid (Tree w9 G N nv al X' ∧ Chg (Dt G) w8 w9 ∧ ∀ q, r - 1 < q → q < sz → Good G N (memAt li b i) al X' q) := by
                refine ⟨ht, HCZ.out.trans hc (fun _ _ e => e), fun q h1 h2 => ?_⟩
                by_cases e : q = r
                · subst e; exact hg
                · obtain ⟨k1, k2⟩ := hk (q - 1) (by omega)
                  exact (HGD.out q (by omega) h2).kept k1 k2
              clear ht hc hk hg hsum HSM
              go_wp2_with fail
              go_roundw
              case rel => exact ⟨r - 1, X', by go_num, by omega, HRL.out.1, HRL.out.2.1, HRL.out.2.2⟩
              case measure => simp [intOf]; omega
            · have hr0 : r = 0 := by omega
              subst hr0
              obtain ⟨f, hf, e0, e1, e3, e4, e5, e6, e10, e11⟩ := HTR.out.tr
              obtain ⟨a10, c10, evr, _⟩ := HTR.out.rr.1.form
              obtain ⟨n10, hn10⟩ : ∃ z, z = X.R.length := ⟨_, rfl⟩
              rw [evr, ← hn10] at e10
              obtain ⟨a2, n2, c2, e2⟩ := HTR.out.tx 2 (by decide)
              rw [hf.cell (i := 2) (by decide)] at e2
              have e2 := Option.some.inj e2
              obtain ⟨a7, n7, c7, e7⟩ := HTR.out.tx 7 (by decide)
              rw [hf.cell (i := 7) (by decide)] at e7
              have e7 := Option.some.inj e7
              obtain ⟨a8, n8, c8, e8⟩ := HTR.out.tx 8 (by decide)
              rw [hf.cell (i := 8) (by decide)] at e8
              have e8 := Option.some.inj e8
              obtain ⟨a9, n9, c9, e9⟩ := HTR.out.tx 9 (by decide)
              rw [hf.cell (i := 9) (by decide)] at e9
              have e9 := Option.some.inj e9
              have HF : Hid (RowIs wr G.T 51 12 f) := hf
              have t0 : wr.cell? ⟨w7.heap.size, 0, none⟩ = some (.int .i64 (G.size : Int)) := by rw [← HGsz.out.2.2.1, hf.cell (i := 0) (by decide), e0]
              have t1 : wr.cell? ⟨w7.heap.size, 1, none⟩ = some (.slice none 0 0) := by rw [← HGsz.out.2.2.1, hf.cell (i := 1) (by decide), e1]
              have t2 : wr.cell? ⟨w7.heap.size, 2, none⟩ = some (.slice a2 n2 c2) := by rw [← HGsz.out.2.2.1, hf.cell (i := 2) (by decide), e2]
              have t3 : wr.cell? ⟨w7.heap.size, 3, none⟩ = some (.slice (some ⟨G.GN, 0, none⟩) G.n G.n) := by rw [← HGsz.out.2.2.1, hf.cell (i := 3) (by decide), e3]
              have t4 : wr.cell? ⟨w7.heap.size, 4, none⟩ = some (.slice (some ⟨G.GL, 0, none⟩) (G.size - 1) (G.size - 1)) := by rw [← HGsz.out.2.2.1, hf.cell (i := 4) (by decide), e4]
              have t5 : wr.cell? ⟨w7.heap.size, 5, none⟩ = some (.slice (some ⟨G.GW, 0, none⟩) ((G.size - 1) * 8) ((G.size - 1) * 8)) := by rw [← HGsz.out.2.2.1, hf.cell (i := 5) (by decide), e5]
              have t6 : wr.cell? ⟨w7.heap.size, 6, none⟩ = some (.slice (some ⟨G.GO, 0, none⟩) (G.size - 1) (G.size - 1)) := by rw [← HGsz.out.2.2.1, hf.cell (i := 6) (by decide), e6]
              have t7 : wr.cell? ⟨w7.heap.size, 7, none⟩ = some (.slice a7 n7 c7) := by rw [← HGsz.out.2.2.1, hf.cell (i := 7) (by decide), e7]
              have t8 : wr.cell? ⟨w7.heap.size, 8, none⟩ = some (.slice a8 n8 c8) := by rw [← HGsz.out.2.2.1, hf.cell (i := 8) (by decide), e8]
              have t9 : wr.cell? ⟨w7.heap.size, 9, none⟩ = some (.slice a9 n9 c9) := by rw [← HGsz.out.2.2.1, hf.cell (i := 9) (by decide), e9]
              have t10 : wr.cell? ⟨w7.heap.size, 10, none⟩ = some (.slice a10 n10 c10) := by rw [← HGsz.out.2.2.1, hf.cell (i := 10) (by decide), e10]
              have t11 : wr.cell? ⟨w7.heap.size, 11, none⟩ = some (.bool al) := by rw [← HGsz.out.2.2.1, hf.cell (i := 11) (by decide), e11]
              have hSBd : ¬ Dt G SB := HDT.out SB (by have := HLE.out; omega)
              have hs0 : wr.cell? ⟨SB, 0, none⟩ = some (.slice (some ⟨LB, 0, none⟩) l1 c1) := (HRSr.out.chg HCZ.out hSBd).cell (i := 0) (by decide)
              have hs1 : wr.cell? ⟨SB, 1, none⟩ = some (.int .i64 0) := (HRSr.out.chg HCZ.out hSBd).cell (i := 1) (by decide)
              obtain ⟨f6, h6⟩ := HR68.out
              obtain ⟨f7, h7⟩ := HR78.out
              have h6' := h6.chg HCZ.out (HDT.out _ (by have := HLOW.out; omega))
              have h7' := h7.chg HCZ.out (HDT.out _ (by have := HLOW.out; omega))
              have p0 := h6'.cell (i := 0) (by decide)
              have z0 := h6'.frozen 0
              have p1 := h6'.cell (i := 1) (by decide)
              have z1 := h6'.frozen 1
              have p2 := h6'.cell (i := 2) (by decide)
              have z2 := h6'.frozen 2
              have p3 := h6'.cell (i := 3) (by decide)
              have z3 := h6'.frozen 3
              have p4 := h6'.cell (i := 4) (by decide)
              have z4 := h6'.frozen 4
              have p5 := h6'.cell (i := 5) (by decide)
              have z5 := h6'.frozen 5
              have p6 := h6'.cell (i := 6) (by decide)
              have z6 := h6'.frozen 6
              have p7 := h6'.cell (i := 7) (by decide)
              have z7 := h6'.frozen 7
              have p8 := h6'.cell (i := 8) (by decide)
              have z8 := h6'.frozen 8
              have p9 := h6'.cell (i := 9) (by decide)
              have z9 := h6'.frozen 9
              have p10 := h6'.cell (i := 10) (by decide)
              have z10 := h6'.frozen 10
              have p11 := h6'.cell (i := 11) (by decide)
              have z11 := h6'.frozen 11
              have q0 := h7'.cell (i := 0) (by decide)
              have y0 := h7'.frozen 0
              have q1 := h7'.cell (i := 1) (by decide)
              have y1 := h7'.frozen 1
              have HEND : Hid (∀ wf, Chg (fun k => k = w.heap.size ∨ k = w.heap.size + 1) wr wf → SetUp w i (memAt li b i) al (.returned (.tuple #[.agg #[.int .i64 (G.size : Int), .slice none 0 0, .slice a2 n2 c2, .slice (some ⟨G.GN, 0, none⟩) G.n G.n, .slice (some ⟨G.GL, 0, none⟩) (G.size - 1) (G.size - 1), .slice (some ⟨G.GW, 0, none⟩) ((G.size - 1) * 8) ((G.size - 1) * 8), .slice (some ⟨G.GO, 0, none⟩) (G.size - 1) (G.size - 1), .slice a7 n7 c7, .slice a8 n8 c8, .slice a9 n9 c9, .slice a10 n10 c10, .bool al], .agg #[.slice (some ⟨LB, 0, none⟩) l1 c1, .int .i64 0], .slice (some ⟨GN, 0, none⟩) i i, .slice (some ⟨MB, 0, none⟩) i i])) wf) := fun wf hcf => by
                have hle := HLE.out
                have hls := HLS.out
                have hlow := HLOW.out
                have hg7 := HG7.out
                have hgs := HGsz.out
                have hok := HTR.out.ok
                have hnD : ∀ b, (b = w.heap.size ∨ b = w.heap.size + 1) → ¬ Dt G b := fun b hb => HDT.out b (by omega)
                have h1w : w.heap.size + 2 ≤ w1.heap.size := by
                  obtain ⟨f7, h7⟩ := HR7.out
                  have := h7.lt
                  omega
                have hGN := HGNl.out.1
                have hfar : ∀ b, (b = w.heap.size ∨ b = w.heap.size + 1) → b ≠ G.T ∧ b ≠ G.GN ∧ b ≠ G.GL ∧ b ≠ G.GW ∧ b ≠ G.GO ∧ ¬ G.ow b := fun b hb => by
                  have h1 := hnD b hb
                  unfold Dt at h1
                  have h2 := hgs.2.2.2
                  exact ⟨fun e => h1 (.inl e), by omega, fun e => h1 (.inr (.inl e)), fun e => h1 (.inr (.inr (.inl e))), fun e => h1 (.inr (.inr (.inr (.inl e)))), fun e => h1 (.inr (.inr (.inr (.inr e))))⟩
                have hwf : New w wf := New.of_chg (New.of_chg HW8.out HCZ.out (fun b hb => by
                  by_cases e : b < w.heap.size
                  · exact absurd hb (HDT.out b (by omega))
                  · omega)) hcf (fun b hb => by omega)
                refine ⟨G, N, nv, X, SB, MB, LB, l1, c1, f, ?_, hgs.2.1, HTR.out.far hcf hfar (fun j hj b hb e => ?_), HF.out.chg hcf (fun e => (hfar _ e).1 rfl), ?_, hcf.cell hs0 (by omega), ?_, HDT.out MB (by omega), hwf, ⟨k, by rw [hgs.1]; exact HSZ.out, hk⟩, fun r h1 h2 => HGD.out r (by omega) (by rw [← hgs.1]; exact h2), hls.2.2.2.2.2.2.1, ?_⟩
                · rw [e0, e1, e2, e3, e4, e5, e6, e7, e8, e9, e10, e11, hgs.2.2.2, hgs.2.1]
                · have := ((HNEED.out j (by rw [hgs.2.1] at hj; exact hj)).2.2 b hb).1
                  omega
                · obtain ⟨LB', WB', l1', c1', words', c2', V', g1, g2, g3, g4, g5, g6, g7, g8, g9⟩ := HSET.out.chg HCZ.out
                  have hL : LB' = LB := by rw [hs0] at g1; cases g1; rfl
                  subst hL
                  have hWc : WB' = WB := by
                    have hl0 := HCZ.out.cell (HN78.out.cell (HCH.out.cell HC5.out (by omega)) (fun h => h)) (HDT.out LB' (by omega))
                    rw [hl0] at g3
                    cases g3; rfl
                  subst hWc
                  exact ⟨LB', WB', l1', c1', words', c2', V', hcf.cell g1 (by omega), g2, hcf.cell g3 (by omega), g4, fun j hj => ⟨hcf.cell (g5 j hj).1 (by omega), (g5 j hj).2⟩, g6, g7, g8, g9⟩
                · exact (HRM8.out.chg HCZ.out (HDT.out MB (by omega))).chg hcf (by omega)
                · exact ⟨WB, words, V, hcf.cell (HCZ.out.cell (HN78.out.cell (HCH.out.cell HC5.out (by omega)) (fun h => h)) (HDT.out LB (by omega))) (by omega), HLT.out.2.2.2.2.2.1, ((HRWi.out.chg HN78.out (fun h => h)).chg HCZ.out (HDT.out WB (by omega))).chg hcf (by omega), HV.out, HLT.out.2.2.2.2.2.2, HBIT.out, HDT.out LB (by omega), HDT.out WB (by omega), by omega, by omega, by omega, by omega, fun k hk => HDT.out k (by omega)⟩
              clear hf h6 h7 h6' h7' e0 e1 e2 e3 e4 e5 e6 e7 e8 e9 e10 e11 evr hn10
              have ne1 : SB ≠ w.heap.size := by have := HLE.out; have := HLS.out; omega
              have ne2 : SB ≠ w.heap.size + 1 := by have := HLE.out; have := HLS.out; have := HLOW.out; have := HGNl.out; have := (HR7.out); obtain ⟨f7, h7⟩ := this; have := h7.lt; have := HMB.out; have := HN2.out.size; omega
              have ne3 : w7.heap.size ≠ w.heap.size := by have := HLE.out; have := HLOW.out; omega
              have ne4 : w7.heap.size ≠ w.heap.size + 1 := by have := HLE.out; have := HLOW.out; omega
              have ne1' := ne1.symm
              have ne2' := ne2.symm
              have ne3' := ne3.symm
              have ne4' := ne4.symm
              go_wp2_with fail
              go_region
              go_wp2_with fail
              refine bodyPost_ret (v := .tuple #[.agg #[.int .i64 (G.size : Int), .slice none 0 0, .slice a2 n2 c2, .slice (some ⟨G.GN, 0, none⟩) G.n G.n, .slice (some ⟨G.GL, 0, none⟩) (G.size - 1) (G.size - 1), .slice (some ⟨G.GW, 0, none⟩) ((G.size - 1) * 8) ((G.size - 1) * 8), .slice (some ⟨G.GO, 0, none⟩) (G.size - 1) (G.size - 1), .slice a7 n7 c7, .slice a8 n8 c8, .slice a9 n9 c9, .slice a10 n10 c10, .bool al], .agg #[.slice (some ⟨LB, 0, none⟩) l1 c1, .int .i64 0], .slice (some ⟨GN, 0, none⟩) i i, .slice (some ⟨MB, 0, none⟩) i i]) ?_ rfl (HEND.out _ ?_)
              · rw [results_four rfl]
                go_simp
              · refine Chg.drew ?_
                iterate 2 refine Chg.set (D := fun k => k = w.heap.size ∨ k = w.heap.size + 1) ?_ (fun _ => .inr rfl) _
                iterate 12 refine Chg.set (D := fun k => k = w.heap.size ∨ k = w.heap.size + 1) ?_ (fun _ => .inl rfl) _
                exact Chg.refl _ _
end Go.Proofs.Ybulkbtdo.U
