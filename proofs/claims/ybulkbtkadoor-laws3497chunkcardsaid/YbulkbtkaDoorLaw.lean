/-
  THE LAW ITSELF: LawS3497CHunk returns true where the inputs are short.
-/
import Derived.Test.YbulkbtkaDoorH
namespace Go.Proofs.YbulkbtkaDoor
open Go.RowKit
def SegAt (w : World) (a : Option Addr) (len : Nat) (C D I : Nat → Nat) : Prop :=
  ∀ k, k < len → ∃ b off, a = some ⟨b, off, none⟩ ∧ w.cell? ⟨b, off + k * 3, none⟩ = some (.int .u8 (C k : Int)) ∧ w.cell? ⟨b, off + k * 3 + 1, none⟩ = some (.int .u8 (D k : Int)) ∧ w.cell? ⟨b, off + k * 3 + 2, none⟩ = some (.int .u8 (I k : Int)) ∧ C k ≤ 255 ∧ D k ≤ 255 ∧ I k ≤ 255
theorem SegAt.later {w w' : World} {a : Option Addr} {len : Nat} {C D I : Nat → Nat} (h : SegAt w a len C D I) (hb : Below w.heap.size w w') : SegAt w' a len C D I := fun k hk => by
  obtain ⟨b, off, ha, h1, h2, h3, r⟩ := h k hk
  exact ⟨b, off, ha, cell_later hb h1, cell_later hb h2, cell_later hb h3, r⟩
theorem ByteAt.later {w w' : World} {a : Option Addr} {len : Nat} {x : Nat → Nat} (h : ByteAt w a len x) (hb : Below w.heap.size w w') : ByteAt w' a len x := fun k hk => by
  obtain ⟨b, off, ha, h1, r⟩ := h k hk
  exact ⟨b, off, ha, cell_later hb h1, r⟩
theorem idx23 {a : Option Addr} {b off len cap k : Nat} (ha : a = some ⟨b, off, none⟩) (hk : k < len) (w : World) :
    (Instr.indexAt 23 (.slice a len cap) (.int .i64 (k : Int))).run Ybad.prog w = .ok (.pointer (some ⟨b, off + k * 3, none⟩)) w := by
  subst ha
  have hs : (sizeOf 25).run Ybad.prog w = .ok 3 w := by kernel_rfl
  rw [run_indexAt_slice _ _ _ _ _ _ _ Ybad.underlying23]
  rw [if_pos (by omega)]
  show ((sizeOf 25).run Ybad.prog w).andThen _ = _
  rw [hs]
  simp only [Result.andThen, Int.toNat_natCast]
  rw [add_at]
theorem St.start (w : World) (ch : Nat → Ch) : St w w ch none (.slice none 0 0) (.slice none 0 0) (.slice none 0 0) (.slice none 0 0) 0 [] [] [] := by
  refine ⟨[], [], ⟨World.ownsRow_nil _ _ _ _, World.ownsRow_nil _ _ _ _, World.ownsRow_nil _ _ _ _, World.ownsRow_nil _ _ _ _, .inl rfl, .inl rfl, .inl rfl, .inl rfl, .inl rfl, .inl rfl, ⟨rfl, fun i x hx => ?_⟩, ⟨rfl, fun i x hx => ?_⟩, .inl rfl, .inl rfl, .inl rfl, .inl rfl⟩, Below.refl _ _, fun k hk => by cases hk⟩
  · simp at hx
  · simp at hx
theorem cline_32 (B g c : Nat) (v : Value) (L M : Bytes) (w : World) (h : Own w B v L) (hB : B ≤ w.heap.size) (hm : Line w g M) (hne : some g ≠ v.ownBlock) (hl : L.length + M.length ≤ 900000) :
    Calls Ybad.prog 5 #[v, .int .u8 32, .slice (some ⟨g, 0, none⟩) M.length c] w fun e w' => ∃ v', e = .returned v' ∧ Own w' B v' (L ++ lineN 32 M) ∧ Step w v w' v' := cline_any B g c v L M 32 w h hB hm hne hl
theorem cline_45 (B g c : Nat) (v : Value) (L M : Bytes) (w : World) (h : Own w B v L) (hB : B ≤ w.heap.size) (hm : Line w g M) (hne : some g ≠ v.ownBlock) (hl : L.length + M.length ≤ 900000) :
    Calls Ybad.prog 5 #[v, .int .u8 45, .slice (some ⟨g, 0, none⟩) M.length c] w fun e w' => ∃ v', e = .returned v' ∧ Own w' B v' (L ++ lineN 45 M) ∧ Step w v w' v' := cline_any B g c v L M 45 w h hB hm hne hl
theorem cline_43 (B g c : Nat) (v : Value) (L M : Bytes) (w : World) (h : Own w B v L) (hB : B ≤ w.heap.size) (hm : Line w g M) (hne : some g ≠ v.ownBlock) (hl : L.length + M.length ≤ 900000) :
    Calls Ybad.prog 5 #[v, .int .u8 43, .slice (some ⟨g, 0, none⟩) M.length c] w fun e w' => ∃ v', e = .returned v' ∧ Own w' B v' (L ++ lineN 43 M) ∧ Step w v w' v' := cline_any B g c v L M 43 w h hB hm hne hl
theorem chf_ck (C D I : Nat → Nat) {s : Nat} (hs : s ≤ C 0 % 5) {k i : Nat} (hk : k < i) : xat (chf C D I) s k ≤ (chf C D I k).x0 ∧ (chf C D I k).x0 ≤ (chf C D I k).x1 ∧ (chf C D I k).x1 ≤ PS C D i ∧ (chf C D I k).y0 ≤ (chf C D I k).y1 ∧ (chf C D I k).y1 ≤ PS C I i := by
  obtain ⟨_, h2, h3⟩ := chf_in C D I hk
  refine ⟨?_, ?_, h2, ?_, h3⟩
  · cases k with
    | zero => show s ≤ PS C D 0 + C 0 % 5; omega
    | succ q => show PS C D (q + 1) ≤ PS C D (q + 1) + C (q + 1) % 5; omega
  · show PS C D k + C k % 5 ≤ PS C D k + C k % 5 + D k % 4; omega
  · show PS C I k + C k % 5 ≤ PS C I k + C k % 5 + I k % 4; omega
set_option maxHeartbeats 8000000 in
set_option maxRecDepth 100000 in
theorem law_any (a0 : Option Addr) (l0 c0 : Nat) (x0 : Nat → Nat) (a1 : Option Addr) (l1 c1 : Nat) (C1 D1 I1 : Nat → Nat) (tl : Nat) (a3 : Option Addr) (l3 c3 : Nat) (x3 : Nat → Nat) (cxt : Nat) (w : World)
    (h0 : ByteAt w a0 l0 x0) (h1 : SegAt w a1 l1 C1 D1 I1) (h3 : ByteAt w a3 l3 x3) (hl0 : l0 ≤ 1024) (hl1 : l1 ≤ 300) (hl3 : l3 ≤ 1024) (htl : tl ≤ 255) (hcxt : cxt ≤ 255) (htab : Tab w.heap.size w) :
    Calls Ybad.prog 3 #[.slice a0 l0 c0, .slice a1 l1 c1, .int .u8 (tl : Int), .slice a3 l3 c3, .int .u8 (cxt : Int)] w fun e w' => e = .returned (.bool true) ∧ Below w.heap.size w w' := by
  have HT : Hid (Tab w.heap.size w) := htab
  have H0 : Hid (ByteAt w a0 l0 x0) := h0
  have H1 : Hid (SegAt w a1 l1 C1 D1 I1) := h1
  have H3 : Hid (ByteAt w a3 l3 x3) := h3
  clear h0 h1 h3 htab
  have t1 : decide ((300 : Int) < (l1 : Int)) = false := decide_eq_false (by omega)
  have t2 : decide ((1024 : Int) < (l3 : Int)) = false := decide_eq_false (by omega)
  have t3 : decide ((1024 : Int) < (l0 : Int)) = false := decide_eq_false (by omega)
  have t1' : decide (300 < l1) = false := decide_eq_false (by omega)
  have t2' : decide (1024 < l3) = false := decide_eq_false (by omega)
  have t3' : decide (1024 < l0) = false := decide_eq_false (by omega)
  go_enter Ybad.func3, Ybad.ntmps3
  go_upto_if 55 with fail
  go_cut [11] (fun s11 wx => ∃ a n c C D I, s11 = .slice a n c ∧ 1 ≤ n ∧ n ≤ 300 ∧ SegAt wx a n C D I ∧ Below w.heap.size w wx)
  case first => as_aux_lemma =>
    by_cases hz : l1 = 0
    · subst hz
      go_wp2_with fail
      go_meet
      refine ⟨_, 1, _, fun _ => 2, fun _ => 1, fun _ => 1, rfl, Nat.le_refl _, by decide, ?_, (Below.refl _ _).alloc (Nat.le_refl _) _⟩
      intro k hk
      have : k = 0 := by omega
      subst this
      exact ⟨_, 0, rfl, by simp [go_sem], by simp [go_sem], by simp [go_sem], by decide, by decide, by decide⟩
    · have tz : decide (l1 = 0) = false := decide_eq_false hz
      have tz' : ((l1 : Int) == 0) = false := by simp; omega
      go_wp2_with fail
      go_meet
      exact ⟨_, l1, _, C1, D1, I1, rfl, by omega, by omega, H1.out, Below.refl _ _⟩
  case rest =>
  obtain ⟨a, ns, c, C, D, I, rfl, hns1, hns, hseg, hbw⟩ := hcut
  have HSEG : Hid (SegAt wc a ns C D I) := hseg
  have HBW : Hid (Below w.heap.size w wc) := hbw
  clear hseg hbw H1
  obtain ⟨ctx, hctx, hctx5⟩ : ∃ n : Nat, n = cxt % 6 ∧ n ≤ 5 := ⟨_, rfl, by omega⟩
  have ectx : (cxt : Int) % 6 = (ctx : Int) := by omega
  obtain ⟨ch, hch⟩ : ∃ ch, ch = chf C D I := ⟨_, rfl⟩
  obtain ⟨be, hbe⟩ : ∃ be, be = min ctx (C 0 % 5) := ⟨_, rfl⟩
  obtain ⟨s, hs⟩ : ∃ s, s = C 0 % 5 - be := ⟨_, rfl⟩
  clear t1 t2 t3 t1' t2' t3'
  go_wp2
  rw [ectx]
  have HCH : Hid (ch = chf C D I) := hch
  have HBE : Hid (be = min ctx (C 0 % 5)) := hbe
  have HS : Hid (s = C 0 % 5 - be) := hs
  have hbe5 : be ≤ 5 := by omega
  have hs5 : s ≤ 5 := by omega
  clear ectx hctx hch hbe hs
  generalize hw0 : wc = w0 at *
  clear hw0
  have hst0 := St.start w0 ch
  go_loopw [13, 14, 15, 16, 17, 18, 19, 20, 21, 63] (fun s13 s14 s15 s16 s17 s18 s19 s20 s21 s63 wr => ∃ (i k : Nat) (LA LB : List Bytes) (Y : Bytes), i ≤ ns ∧ s63 = .int .i64 (i : Int) ∧ s17 = .int .i64 (k : Int) ∧ k ≤ 10 * i ∧ LA.length = PS C D i ∧ LB.length = PS C I i ∧
    St w0 wr ch none s13 s14 s15 s16 i LA LB Y ∧ Y = rendTo LA LB ch s i ∧ Y.length ≤ 33 * k ∧ s18 = .int .i64 ((PS C D i - s : Nat) : Int) ∧ s19 = .int .i64 ((PS C I i - s : Nat) : Int) ∧ s20 = .int .i64 ((if i = 0 then 0 else s : Nat) : Int) ∧ s21 = .int .i64 ((if i = 0 then 0 else be : Nat) : Int)) (fun _ _ _ _ _ _ _ _ _ s63 _ => ns - (intOf s63).toNat)
  case atStart => exact ⟨0, 0, [], [], [], Nat.zero_le _, rfl, rfl, Nat.le_refl _, rfl, rfl, hst0, rfl, Nat.le_refl _, by simp [PS], by simp [PS], rfl, rfl⟩
  case round =>
    obtain ⟨i, k, LA, LB, Y, hi, rfl, rfl, hk, hLA, hLB, hst, hY, hYl, rfl, rfl, rfl, rfl⟩ := hrel
    clear hst0
    by_cases hlt : i < ns
    · as_aux_lemma =>
      obtain ⟨sb, so, hsa, hc1, hc2, hc3, hC, hD, hI⟩ := HSEG.out.later hst.below i hlt
      have is := fun wz => idx23 (cap := c) (k := i) (len := ns) hsa hlt wz
      have hPa := PS_le C D i
      have hPb := PS_le C I i
      have HPA : Hid (PS C D (i + 1) = PS C D i + C i % 5 + D i % 4) := rfl
      have HPB : Hid (PS C I (i + 1) = PS C I i + C i % 5 + I i % 4) := rfl
      have HIN : Hid (∀ q, q < i → (ch q).x0 ≤ PS C D i ∧ (ch q).x1 ≤ PS C D i ∧ (ch q).y1 ≤ PS C I i) := fun q hq => by rw [HCH.out]; exact chf_in C D I hq
      have HCHI : Hid (ch i = { x0 := PS C D i + C i % 5, x1 := PS C D (i + 1), y0 := PS C I i + C i % 5, y1 := PS C I (i + 1) }) := by
        show ch i = _
        rw [HCH.out]; rfl
      have HX : Hid (xat ch s i = if i = 0 then s else PS C D i) := by
        show xat ch s i = _
        cases i with
        | zero => rfl
        | succ q => show (ch q).x1 = _; rw [HCH.out]; rfl
      have HI0 : Hid (i = 0 → PS C D i = 0 ∧ PS C I i = 0 ∧ s = C i % 5 - be ∧ be = min ctx (C i % 5)) := fun h => by
        subst h
        exact ⟨rfl, rfl, HS.out, HBE.out⟩
      have HPS : Hid (i ≠ 0 → s ≤ PS C D i ∧ s ≤ PS C I i) := fun h => by
        have m1 := PS_mono C D (show 1 ≤ i by omega)
        have m2 := PS_mono C I (show 1 ≤ i by omega)
        have q1 : PS C D 1 = 0 + C 0 % 5 + D 0 % 4 := rfl
        have q2 : PS C I 1 = 0 + C 0 % 5 + I 0 % 4 := rfl
        have := HS.out
        omega
      have HRS : Hid (rendTo LA LB ch s (i + 1) = rendTo LA LB ch s i ++ blk 32 LA (xat ch s i) (ch i).x0 ++ blk 45 LA (ch i).x0 (ch i).x1 ++ blk 43 LB (ch i).y0 (ch i).y1) := rfl
      clear HRS
      obtain ⟨PA1, hPA1⟩ : ∃ z, z = PS C D (i + 1) := ⟨_, rfl⟩
      obtain ⟨PB1, hPB1⟩ : ∃ z, z = PS C I (i + 1) := ⟨_, rfl⟩
      rw [← hPA1] at HPA HCHI
      rw [← hPB1] at HPB HCHI
      have HPA1 : Hid (PA1 = PS C D (i + 1)) := hPA1
      have HPB1 : Hid (PB1 = PS C I (i + 1)) := hPB1
      clear hPA1 hPB1
      generalize PS C D i = PA at *
      generalize PS C I i = PB at *
      generalize C i = ci at *
      generalize D i = di at *
      generalize I i = ii at *
      have hst1 := hst.later ((Below.refl _ _).alloc (Nat.le_refl _) (.cells #[.int .u8 (ci : Int), .int .u8 (di : Int), .int .u8 (ii : Int)] 25))
      have hhd := hst.fresh (.cells #[.int .u8 (ci : Int), .int .u8 (di : Int), .int .u8 (ii : Int)] 25)
      have HST1 : Hid (St w0 (wr.alloc (.cells #[.int .u8 (ci : Int), .int .u8 (di : Int), .int .u8 (ii : Int)] 25)) ch none u13 u14 u15 u16 i LA LB Y) := hst1
      have HHD : Hid (Held (wr.alloc (.cells #[.int .u8 (ci : Int), .int .u8 (di : Int), .int .u8 (ii : Int)] 25)) u13 u14 u15 u16 wr.heap.size (.cells #[.int .u8 (ci : Int), .int .u8 (di : Int), .int .u8 (ii : Int)] 25)) := hhd
      have HYY : Hid (Y = rendTo LA LB ch s i) := hY
      clear hst hst1 hhd hY hsa
      have t64 : decide (i < ns) = true := decide_eq_true hlt
      have t64' : decide ((i : Int) < (ns : Int)) = true := decide_eq_true (by omega)
      go_upto_if 73 with fail
      generalize hws : (wr.alloc (.cells #[.int .u8 (ci : Int), .int .u8 (di : Int), .int .u8 (ii : Int)] 25)) = WS at *
      clear hc1 hc2 hc3 is
      obtain ⟨cm, hcm, hcm4⟩ : ∃ n : Nat, n = ci % 5 ∧ n ≤ 4 := ⟨_, rfl, by omega⟩
      obtain ⟨dm, hdm, hdm3⟩ : ∃ n : Nat, n = di % 4 ∧ n ≤ 3 := ⟨_, rfl, by omega⟩
      obtain ⟨im, him, him3⟩ : ∃ n : Nat, n = ii % 4 ∧ n ≤ 3 := ⟨_, rfl, by omega⟩
      have ecm : (ci : Int) % 5 = (cm : Int) := by omega
      have edm : (di : Int) % 4 = (dm : Int) := by omega
      have eim : (ii : Int) % 4 = (im : Int) := by omega
      rw [← hcm] at HPA HPB HCHI HI0
      rw [← hdm] at HPA
      rw [← him] at HPB
      rw [ecm]
      clear hcm hdm him
      go_cut [20, 21] (fun s20 s21 wx => s20 = .int .i64 (s : Int) ∧ s21 = .int .i64 (be : Int) ∧ WS = wx)
      case first => as_aux_lemma =>
        by_cases hz : i = 0
        · obtain ⟨_, _, e3, e4⟩ := HI0.out hz
          have tz : ((i : Int) == 0) = true := by simp; omega
          have tz' : decide (i = 0) = true := decide_eq_true hz
          go_wp2_with fail
          go_meet
          refine ⟨?_, ?_, rfl⟩ <;> congr 1 <;> omega
        · have tz : ((i : Int) == 0) = false := by simp; omega
          have tz' : decide (i = 0) = false := decide_eq_false hz
          go_wp2_with fail
          go_meet
          simp
      case rest =>
      obtain ⟨rfl, rfl, rfl⟩ := hcut
      go_wp2
      clear hws
      generalize wr.heap.size = SB at *
      generalize u15 = vcc at *
      obtain ⟨X, hX⟩ : ∃ X, X = xat ch s i := ⟨_, rfl⟩
      have HXX : Hid (X = xat ch s i) := hX
      have hXv : (i = 0 → X = s) ∧ (i ≠ 0 → X = PA) := by
        have := HX.out
        rw [← hX] at this
        constructor
        · intro e; rw [this, if_pos e]
        · intro e; rw [this, if_neg e]
      clear hX
      go_loopw [13, 14, 16, 17, 18, 19, 25] (fun s13 s14 s16 s17 s18 s19 s25 wz => ∃ (j k : Nat) (LA LB : List Bytes) (Y : Bytes), s25 = .int .i64 (j : Int) ∧ j ≤ cm ∧ s17 = .int .i64 (k : Int) ∧ k ≤ 10 * i + j ∧ LA.length = PA + j ∧ LB.length = PB + j ∧
        St w0 wz ch none s13 s14 vcc s16 i LA LB Y ∧ Held wz s13 s14 vcc s16 SB (.cells #[.int .u8 (ci : Int), .int .u8 (di : Int), .int .u8 (ii : Int)] 25) ∧ Y = rendTo LA LB ch s i ++ blk 32 LA X (PA + j) ∧ Y.length ≤ 33 * k ∧ s18 = .int .i64 ((PA + j - s : Nat) : Int) ∧ s19 = .int .i64 ((PB + j - s : Nat) : Int)) (fun _ _ _ _ _ _ s25 _ => cm - (intOf s25).toNat)
      case atStart =>
        refine ⟨0, k, LA, LB, Y, rfl, Nat.zero_le _, rfl, hk, hLA, hLB, HST1.out, HHD.out, ?_, hYl, rfl, rfl⟩
        rw [← HYY.out, blk_past 32 LA X (PA + 0) (by by_cases e : i = 0
                                                     · have := (HI0.out e).1; omega
                                                     · have := hXv.2 e; omega), List.append_nil]
      case round =>
        clear HST1 HHD HYY hk hLA hLB hYl
        obtain ⟨j, k, LA, LB, Y, rfl, hj, rfl, hk, hLA, hLB, hst, hhd, hY, hYl, rfl, rfl⟩ := hrel
        by_cases hjl : j < cm
        · as_aux_lemma =>
          have HST : Hid (St w0 wr ch none u13 u14 vcc u16 i LA LB Y) := hst
          have HHD : Hid (Held wr u13 u14 vcc u16 SB (.cells #[.int .u8 (ci : Int), .int .u8 (di : Int), .int .u8 (ii : Int)] 25)) := hhd
          have HYY : Hid (Y = rendTo LA LB ch s i ++ blk 32 LA X (PA + j)) := hY
          have hB3 := HBW.out.trans (hst.below.mono HBW.out.size)
          have H3r := H3.out.later hB3
          clear hst hhd hY
          go_wp2_with fail
          refine (pick_any a3 l3 c3 k x3 _ H3r hl3 (by omega)).mono ?_
          rintro e w1 ⟨g, cg, rfl, hline, hg1, hg2, hb1⟩
          have hml := pickN_length x3 l3 k
          generalize pickN x3 l3 k = M at *
          have hst1 := HST.out.later hb1
          have hhd1 := HHD.out.later hb1
          have hv1 : LineV w1 none u13 u14 vcc u16 (.slice (some ⟨g, 0, none⟩) M.length cg) M := HST.out.line hg1 hg2 hline hml
          obtain ⟨va', w2, hr2, hst2, hs2⟩ := hst1.pushA hv1 (by omega)
          have hv2 := hv1.stepA hs2
          have hhd2 := hhd1.stepA hs2
          obtain ⟨vb', w3, hr3, hst3, hs3⟩ := hst2.pushB hv2 (by omega)
          have hv3 := hv2.stepB hs3
          have hhd3 := hhd2.stepB hs3
          have hB : Below w.heap.size w w3 := HBW.out.trans (hst3.below.mono HBW.out.size)
          have HST3 : Hid (St w0 w3 ch none va' vb' vcc u16 i (LA ++ [M]) (LB ++ [M]) Y) := hst3
          have HHD3 : Hid (Held w3 va' vb' vcc u16 SB (.cells #[.int .u8 (ci : Int), .int .u8 (di : Int), .int .u8 (ii : Int)] 25)) := hhd3
          have HV3 : Hid (LineV w3 none va' vb' vcc u16 (.slice (some ⟨g, 0, none⟩) M.length cg) M) := hv3
          have HRA : Hid (rendTo (LA ++ [M]) (LB ++ [M]) ch s i = rendTo LA LB ch s i) := rendTo_app LA LB [M] [M] ch s i (fun q hq => by obtain ⟨z1, z2, z3⟩ := HIN.out q hq; omega)
          clear hst1 hst2 hst3 hhd1 hhd2 hhd3 hv1 hv2 hv3 hs2 hs3 hline hb1 H3r hB3 hB
          go_upto_region 28 with (first | (at_builtin; refine wpList_app rfl _ _ _ _ rfl hr2 rfl rfl ?_) | (at_builtin; refine wpList_app rfl _ _ _ _ rfl hr3 rfl rfl ?_) | fail)
          go_cut [106] (fun s106 wx => s106 = .bool (decide (0 < i ∨ s ≤ j)) ∧ w3 = wx)
          case first => as_aux_lemma =>
            by_cases hz : i = 0
            · obtain ⟨_, _, e3, e4⟩ := HI0.out hz
              have t1 : decide ((0 : Int) < (i : Int)) = false := decide_eq_false (by omega)
              have t1' : decide (0 < i) = false := decide_eq_false (by omega)
              by_cases hsj : s ≤ j
              · have t2 : decide ((cm : Int) - (be : Int) ≤ (j : Int)) = true := decide_eq_true (by omega)
                clear e3 e4
                go_wp2_with fail
                go_meet
                exact ⟨by rw [decide_eq_true (show 0 < i ∨ s ≤ j from .inr hsj)], rfl⟩
              · have t2 : decide ((cm : Int) - (be : Int) ≤ (j : Int)) = false := decide_eq_false (by omega)
                clear e3 e4
                go_wp2_with fail
                go_meet
                exact ⟨by rw [decide_eq_false (show ¬ (0 < i ∨ s ≤ j) by omega)], rfl⟩
            · have t1 : decide ((0 : Int) < (i : Int)) = true := decide_eq_true (by omega)
              have t1' : decide (0 < i) = true := decide_eq_true (by omega)
              go_wp2_with fail
              go_meet
              exact ⟨by rw [decide_eq_true (show 0 < i ∨ s ≤ j from .inl (by omega))], rfl⟩
          case rest =>
          obtain ⟨rfl, rfl⟩ := hcut
          by_cases hcond : 0 < i ∨ s ≤ j
          · as_aux_lemma =>
            have hXj : X ≤ PA + j := by
              by_cases e : i = 0
              · have := hXv.1 e; omega
              · have := hXv.2 e; omega
            have hsj : s ≤ PA + j ∧ s ≤ PB + j := by
              by_cases e : i = 0
              · obtain ⟨e1, e2, _, _⟩ := HI0.out e
                omega
              · obtain ⟨e1, e2⟩ := HPS.out e
                omega
            have HBK : Hid (blk 32 (LA ++ [M]) X (PA + (j + 1)) = blk 32 LA X (PA + j) ++ lineN 32 M) := blk_push 32 LA M X (PA + j) hXj hLA
            rw [decide_eq_true hcond]
            have hne : some g ≠ u16.ownBlock := by
              obtain ⟨g', c', e, _, _, hf, _⟩ := HV3.out
              cases e
              exact hf.2.2.2
            have hl3 : Line w3 g M := by
              obtain ⟨g', c', e, _, hl, _⟩ := HV3.out
              cases e
              exact hl
            have HL3 : Hid (Line w3 g M) := hl3
            clear hl3
            go_wp2_with fail
            refine (cline_32 w0.heap.size g cg u16 Y M _ HST3.out.oy HST3.out.below.size HL3.out hne (by omega)).mono ?_
            rintro e w4 ⟨vy', rfl, ho4, hs4⟩
            have hst4 := HST3.out.pushY hs4 ho4
            have hhd4 := HHD3.out.stepY hs4
            have hnl := lineN_length 32 M
            have HST4 : Hid (St w0 w4 ch none va' vb' vcc vy' i (LA ++ [M]) (LB ++ [M]) (Y ++ lineN 32 M)) := hst4
            have HHD4 : Hid (Held w4 va' vb' vcc vy' SB (.cells #[.int .u8 (ci : Int), .int .u8 (di : Int), .int .u8 (ii : Int)] 25)) := hhd4
            clear hst4 hhd4 ho4 hs4
            go_wp2
            go_roundw
            case rel =>
              refine ⟨j + 1, k + 1, LA ++ [M], LB ++ [M], Y ++ lineN 32 M, by go_num, by omega, by go_num, by omega, by simp; omega, by simp; omega, HST4.out, HHD4.out, ?_, by simp; omega, ?_, ?_⟩
              · rw [HRA.out, HBK.out, HYY.out]; simp
              · congr 1; omega
              · congr 1; omega
            case measure => simp [intOf]; omega
          · have hz : i = 0 := by omega
            have hXs := hXv.1 hz
            obtain ⟨e1, e2, _, _⟩ := HI0.out hz
            have HBK : Hid (blk 32 (LA ++ [M]) X (PA + (j + 1)) = []) := blk_past 32 (LA ++ [M]) X _ (by omega)
            have HBK2 : Hid (blk 32 LA X (PA + j) = []) := blk_past 32 LA X _ (by omega)
            rw [decide_eq_false hcond]
            have hf1 : PA + j - s = PA + (j + 1) - s := by omega
            have hf2 : PB + j - s = PB + (j + 1) - s := by omega
            rw [hf1, hf2]
            clear e1 e2 hf1 hf2 hz
            go_wp2
            go_roundw
            case rel =>
              refine ⟨j + 1, k + 1, LA ++ [M], LB ++ [M], Y, by go_num, by omega, by go_num, by omega, by simp; omega, by simp; omega, HST3.out, HHD3.out, ?_, by omega, rfl, rfl⟩
              rw [HRA.out, HBK.out, HYY.out, HBK2.out]
            case measure => simp [intOf]; omega
        · as_aux_lemma =>
          have hjj : j = cm := by omega
          subst hjj
          obtain ⟨X0, hX0⟩ : ∃ X0, X0 = PA + j := ⟨_, rfl⟩
          obtain ⟨Y0, hY0⟩ : ∃ Y0, Y0 = PB + j := ⟨_, rfl⟩
          rw [← hX0] at hLA hY
          rw [← hY0] at hLB
          rw [← hX0, ← hY0]
          have hfm := hst.forms
          rw [hLA, hLB] at hfm
          obtain ⟨⟨aa, ca, rfl, hca⟩, ⟨ab, cb, rfl, hcb⟩, _⟩ := hfm
          have hsx : s ≤ X0 ∧ s ≤ Y0 := by
            by_cases e : i = 0
            · obtain ⟨e1, e2, e3, _⟩ := HI0.out e
              omega
            · obtain ⟨e1, e2⟩ := HPS.out e
              omega
          have HCI : Hid (ch i = { x0 := X0, x1 := X0 + dm, y0 := Y0, y1 := Y0 + im }) := by
            show ch i = _
            rw [HCHI.out, HPA.out, HPB.out, hX0, hY0]
          have HP1 : Hid (PA1 = X0 + dm ∧ PB1 = Y0 + im) := by
            constructor
            · rw [HPA.out, hX0]
            · rw [HPB.out, hY0]
          have hXX0 : X0 ≤ PA + 4 := by omega
          have hYY0 : Y0 ≤ PB + 4 := by omega
          have HIN' : Hid (∀ q, q < i → (ch q).x0 ≤ X0 ∧ (ch q).x1 ≤ X0 ∧ (ch q).y1 ≤ Y0) := fun q hq => by obtain ⟨z1, z2, z3⟩ := HIN.out q hq; omega
          have hstT := hst.newT (.cells #[.int .i64 (X0 : Int), .int .i64 0, .int .i64 (Y0 : Int), .int .i64 0] 31)
          have hhdT := hst.fresh (.cells #[.int .i64 (X0 : Int), .int .i64 0, .int .i64 (Y0 : Int), .int .i64 0] 31)
          have hhdS := hhd.later ((Below.refl _ _).alloc (Nat.le_refl _) (.cells #[.int .i64 (X0 : Int), .int .i64 0, .int .i64 (Y0 : Int), .int .i64 0] 31))
          have HSTT : Hid (St w0 (wr.alloc (.cells #[.int .i64 (X0 : Int), .int .i64 0, .int .i64 (Y0 : Int), .int .i64 0] 31)) ch (some wr.heap.size) (.slice aa X0 ca) (.slice ab Y0 cb) vcc u16 i LA LB Y) := hstT
          have HHDT : Hid (Held (wr.alloc (.cells #[.int .i64 (X0 : Int), .int .i64 0, .int .i64 (Y0 : Int), .int .i64 0] 31)) (.slice aa X0 ca) (.slice ab Y0 cb) vcc u16 wr.heap.size (.cells #[.int .i64 (X0 : Int), .int .i64 0, .int .i64 (Y0 : Int), .int .i64 0] 31)) := hhdT
          have HHDS : Hid (Held (wr.alloc (.cells #[.int .i64 (X0 : Int), .int .i64 0, .int .i64 (Y0 : Int), .int .i64 0] 31)) (.slice aa X0 ca) (.slice ab Y0 cb) vcc u16 SB (.cells #[.int .u8 (ci : Int), .int .u8 (di : Int), .int .u8 (ii : Int)] 25)) := hhdS
          have HYY : Hid (Y = rendTo LA LB ch s i ++ blk 32 LA X X0) := hY
          have hw0wr := hst.below.size
          clear hst hhd hstT hhdT hhdS hY hX0 hY0
          have tjj : decide (j < j) = false := decide_eq_false (by omega)
          go_wp2
          generalize hwt : wr.alloc (.cells #[.int .i64 (X0 : Int), .int .i64 0, .int .i64 (Y0 : Int), .int .i64 0] 31) = WT at *
          clear hwt
          generalize wr.heap.size = TB at *
          generalize u16 = vy0 at *
          go_loopw [13, 16, 17, 18, 28] (fun s13 s16 s17 s18 s28 wz => ∃ (q k : Nat) (LA : List Bytes) (Y : Bytes), s28 = .int .i64 (q : Int) ∧ q ≤ dm ∧ s17 = .int .i64 (k : Int) ∧ k ≤ 10 * i + j + q ∧ LA.length = X0 + q ∧
            St w0 wz ch (some TB) s13 (.slice ab Y0 cb) vcc s16 i LA LB Y ∧ Held wz s13 (.slice ab Y0 cb) vcc s16 SB (.cells #[.int .u8 (ci : Int), .int .u8 (di : Int), .int .u8 (ii : Int)] 25) ∧ Held wz s13 (.slice ab Y0 cb) vcc s16 TB (.cells #[.int .i64 (X0 : Int), .int .i64 0, .int .i64 (Y0 : Int), .int .i64 0] 31) ∧
            Y = rendTo LA LB ch s i ++ blk 32 LA X X0 ++ blk 45 LA X0 (X0 + q) ∧ Y.length ≤ 33 * k ∧ s18 = .int .i64 ((X0 + q - s : Nat) : Int)) (fun _ _ _ _ s28 _ => dm - (intOf s28).toNat)
          case atStart =>
            refine ⟨0, k, LA, Y, rfl, Nat.zero_le _, rfl, hk, hLA, HSTT.out, HHDS.out, HHDT.out, ?_, hYl, rfl⟩
            rw [HYY.out, Nat.add_zero, blk_self, List.append_nil]
          case round =>
            clear HSTT HHDT HHDS HYY hk hLA hYl
            obtain ⟨q, k, LA, Y, rfl, hq, rfl, hk, hLA, hst, hhS, hhT, hY, hYl, rfl⟩ := hrel
            have hcS := hhS.cell (i := 1) (u := .int .u8 (di : Int)) rfl
            by_cases hql : q < dm
            · as_aux_lemma =>
              have tq : decide ((q : Int) < (di : Int) % 4) = true := decide_eq_true (by omega)
              have tq' : decide (q < di % 4) = true := decide_eq_true (by omega)
              have HST : Hid (St w0 wr ch (some TB) u13 (.slice ab Y0 cb) vcc u16 i LA LB Y) := hst
              have HHS : Hid (Held wr u13 (.slice ab Y0 cb) vcc u16 SB (.cells #[.int .u8 (ci : Int), .int .u8 (di : Int), .int .u8 (ii : Int)] 25)) := hhS
              have HHT : Hid (Held wr u13 (.slice ab Y0 cb) vcc u16 TB (.cells #[.int .i64 (X0 : Int), .int .i64 0, .int .i64 (Y0 : Int), .int .i64 0] 31)) := hhT
              have HYY : Hid (Y = rendTo LA LB ch s i ++ blk 32 LA X X0 ++ blk 45 LA X0 (X0 + q)) := hY
              have hB3 := HBW.out.trans (hst.below.mono HBW.out.size)
              have H3r := H3.out.later hB3
              clear hst hhS hhT hY
              go_wp2_with fail
              refine (pick_any a3 l3 c3 k x3 _ H3r hl3 (by omega)).mono ?_
              rintro e w1 ⟨g, cg, rfl, hline, hg1, hg2, hb1⟩
              have hml := pickN_length x3 l3 k
              generalize pickN x3 l3 k = M at *
              have hst1 := HST.out.later hb1
              have hv1 : LineV w1 (some TB) u13 (.slice ab Y0 cb) vcc u16 (.slice (some ⟨g, 0, none⟩) M.length cg) M := HST.out.line hg1 hg2 hline hml
              obtain ⟨va', w2, hr2, hst2, hs2⟩ := hst1.pushA hv1 (by omega)
              have hv2 := hv1.stepA hs2
              have hhS2 := (HHS.out.later hb1).stepA hs2
              have hhT2 := (HHT.out.later hb1).stepA hs2
              have HST2 : Hid (St w0 w2 ch (some TB) va' (.slice ab Y0 cb) vcc u16 i (LA ++ [M]) LB Y) := hst2
              have HHS2 : Hid (Held w2 va' (.slice ab Y0 cb) vcc u16 SB (.cells #[.int .u8 (ci : Int), .int .u8 (di : Int), .int .u8 (ii : Int)] 25)) := hhS2
              have HHT2 : Hid (Held w2 va' (.slice ab Y0 cb) vcc u16 TB (.cells #[.int .i64 (X0 : Int), .int .i64 0, .int .i64 (Y0 : Int), .int .i64 0] 31)) := hhT2
              have HRA : Hid (rendTo (LA ++ [M]) LB ch s i = rendTo LA LB ch s i) := rendTo_appA LA LB [M] ch s i (fun r hr => by obtain ⟨z1, z2, z3⟩ := HIN'.out r hr; omega)
              have HBA : Hid (blk 32 (LA ++ [M]) X X0 = blk 32 LA X X0) := blk_app 32 LA [M] X X0 (by omega)
              have HBK : Hid (blk 45 (LA ++ [M]) X0 (X0 + (q + 1)) = blk 45 LA X0 (X0 + q) ++ lineN 45 M) := blk_push 45 LA M X0 (X0 + q) (by omega) hLA
              have hne : some g ≠ u16.ownBlock := by
                obtain ⟨g', c', e, _, _, hf, _⟩ := hv2
                cases e
                exact hf.2.2.2
              have hl2 : Line w2 g M := by
                obtain ⟨g', c', e, _, hl, _⟩ := hv2
                cases e
                exact hl
              have HL2 : Hid (Line w2 g M) := hl2
              clear hst1 hst2 hhS2 hhT2 hv1 hv2 hs2 hline hb1 H3r hB3 hl2 hcS
              go_wp2_with (first | (at_builtin; refine wpList_app rfl _ _ _ _ rfl hr2 rfl rfl ?_) | fail)
              refine (cline_45 w0.heap.size g cg u16 Y M _ HST2.out.oy HST2.out.below.size HL2.out hne (by omega)).mono ?_
              rintro e w4 ⟨vy', rfl, ho4, hs4⟩
              have hst4 := HST2.out.pushY hs4 ho4
              have hhS4 := HHS2.out.stepY hs4
              have hhT4 := HHT2.out.stepY hs4
              have hnl := lineN_length 45 M
              have HST4 : Hid (St w0 w4 ch (some TB) va' (.slice ab Y0 cb) vcc vy' i (LA ++ [M]) LB (Y ++ lineN 45 M)) := hst4
              have HHS4 : Hid (Held w4 va' (.slice ab Y0 cb) vcc vy' SB (.cells #[.int .u8 (ci : Int), .int .u8 (di : Int), .int .u8 (ii : Int)] 25)) := hhS4
              have HHT4 : Hid (Held w4 va' (.slice ab Y0 cb) vcc vy' TB (.cells #[.int .i64 (X0 : Int), .int .i64 0, .int .i64 (Y0 : Int), .int .i64 0] 31)) := hhT4
              clear hst4 hhS4 hhT4 ho4 hs4
              go_wp2
              go_roundw
              case rel =>
                refine ⟨q + 1, k + 1, LA ++ [M], Y ++ lineN 45 M, by go_num, by omega, by go_num, by omega, by simp; omega, HST4.out, HHS4.out, HHT4.out, ?_, by simp; omega, ?_⟩
                · rw [HRA.out, HBA.out, HBK.out, HYY.out]; simp
                · congr 1; omega
              case measure => simp [intOf]; omega
            · as_aux_lemma =>
              have hqq : q = dm := by omega
              have tq : decide ((q : Int) < (di : Int) % 4) = false := decide_eq_false (by omega)
              have tq' : decide (q < di % 4) = false := decide_eq_false (by omega)
              obtain ⟨X1, hX1⟩ : ∃ X1, X1 = X0 + q := ⟨_, rfl⟩
              rw [← hX1] at hLA hY
              rw [← hX1]
              have hfm := hst.forms
              rw [hLA, hLB] at hfm
              obtain ⟨⟨aa', ca', rfl, hca'⟩, _, _⟩ := hfm
              have HX1 : Hid (X1 = X0 + dm) := by
                show X1 = X0 + dm
                omega
              have hX1l : X0 ≤ X1 ∧ X1 ≤ X0 + 3 := by omega
              have HSTT : Hid (St w0 wr ch (some TB) (.slice aa' X1 ca') (.slice ab Y0 cb) vcc u16 i LA LB Y) := hst
              have HHDS : Hid (Held wr (.slice aa' X1 ca') (.slice ab Y0 cb) vcc u16 SB (.cells #[.int .u8 (ci : Int), .int .u8 (di : Int), .int .u8 (ii : Int)] 25)) := hhS
              have HHDT : Hid (Held wr (.slice aa' X1 ca') (.slice ab Y0 cb) vcc u16 TB (.cells #[.int .i64 (X0 : Int), .int .i64 0, .int .i64 (Y0 : Int), .int .i64 0] 31)) := hhT
              have HYY : Hid (Y = rendTo LA LB ch s i ++ blk 32 LA X X0 ++ blk 45 LA X0 X1) := hY
              have hkk : k ≤ 10 * i + j + 3 := by omega
              clear hst hhS hhT hY hX1 hqq hk hq
              go_upto_region 41 with fail
              go_cut [30] (fun s30 wx => s30 = .int .i64 0 ∧ wr = wx)
              case first => as_aux_lemma =>
                go_wp2_with fail
                go_meet
                exact ⟨rfl, rfl⟩
              case rest =>
              obtain ⟨rfl, rfl⟩ := hcut
              clear hcS
              go_wp2
              go_loopw [14, 16, 17, 19, 30] (fun s14 s16 s17 s19 s30 wz => ∃ (r k : Nat) (LB : List Bytes) (Y : Bytes), s30 = .int .i64 (r : Int) ∧ r ≤ im ∧ s17 = .int .i64 (k : Int) ∧ k ≤ 10 * i + j + 3 + r ∧ LB.length = Y0 + r ∧
                St w0 wz ch (some TB) (.slice aa' X1 ca') s14 vcc s16 i LA LB Y ∧ Held wz (.slice aa' X1 ca') s14 vcc s16 SB (.cells #[.int .u8 (ci : Int), .int .u8 (di : Int), .int .u8 (ii : Int)] 25) ∧ Held wz (.slice aa' X1 ca') s14 vcc s16 TB (.cells #[.int .i64 (X0 : Int), .int .i64 0, .int .i64 (Y0 : Int), .int .i64 0] 31) ∧
                Y = rendTo LA LB ch s i ++ blk 32 LA X X0 ++ blk 45 LA X0 X1 ++ blk 43 LB Y0 (Y0 + r) ∧ Y.length ≤ 33 * k ∧ s19 = .int .i64 ((Y0 + r - s : Nat) : Int)) (fun _ _ _ _ s30 _ => im - (intOf s30).toNat)
              case atStart =>
                refine ⟨0, k, LB, Y, rfl, Nat.zero_le _, rfl, hkk, hLB, HSTT.out, HHDS.out, HHDT.out, ?_, hYl, rfl⟩
                rw [HYY.out, Nat.add_zero, blk_self, List.append_nil]
              case round =>
                clear HSTT HHDT HHDS HYY hkk hLB hYl
                obtain ⟨r, k, LB, Y, rfl, hr, rfl, hk, hLB, hst, hhS, hhT, hY, hYl, rfl⟩ := hrel
                have hcS := hhS.cell (i := 2) (u := .int .u8 (ii : Int)) rfl
                by_cases hrl : r < im
                · as_aux_lemma =>
                  have tr : decide ((r : Int) < (ii : Int) % 4) = true := decide_eq_true (by omega)
                  have tr' : decide (r < ii % 4) = true := decide_eq_true (by omega)
                  have HST : Hid (St w0 wr ch (some TB) (.slice aa' X1 ca') u14 vcc u16 i LA LB Y) := hst
                  have HHS : Hid (Held wr (.slice aa' X1 ca') u14 vcc u16 SB (.cells #[.int .u8 (ci : Int), .int .u8 (di : Int), .int .u8 (ii : Int)] 25)) := hhS
                  have HHT : Hid (Held wr (.slice aa' X1 ca') u14 vcc u16 TB (.cells #[.int .i64 (X0 : Int), .int .i64 0, .int .i64 (Y0 : Int), .int .i64 0] 31)) := hhT
                  have HYY : Hid (Y = rendTo LA LB ch s i ++ blk 32 LA X X0 ++ blk 45 LA X0 X1 ++ blk 43 LB Y0 (Y0 + r)) := hY
                  have hB3 := HBW.out.trans (hst.below.mono HBW.out.size)
                  have H3r := H3.out.later hB3
                  clear hst hhS hhT hY
                  go_wp2_with fail
                  refine (pick_any a3 l3 c3 k x3 _ H3r hl3 (by omega)).mono ?_
                  rintro e w1 ⟨g, cg, rfl, hline, hg1, hg2, hb1⟩
                  have hml := pickN_length x3 l3 k
                  generalize pickN x3 l3 k = M at *
                  have hst1 := HST.out.later hb1
                  have hv1 : LineV w1 (some TB) (.slice aa' X1 ca') u14 vcc u16 (.slice (some ⟨g, 0, none⟩) M.length cg) M := HST.out.line hg1 hg2 hline hml
                  obtain ⟨vb', w2, hr2, hst2, hs2⟩ := hst1.pushB hv1 (by omega)
                  have hv2 := hv1.stepB hs2
                  have hhS2 := (HHS.out.later hb1).stepB hs2
                  have hhT2 := (HHT.out.later hb1).stepB hs2
                  have HST2 : Hid (St w0 w2 ch (some TB) (.slice aa' X1 ca') vb' vcc u16 i LA (LB ++ [M]) Y) := hst2
                  have HHS2 : Hid (Held w2 (.slice aa' X1 ca') vb' vcc u16 SB (.cells #[.int .u8 (ci : Int), .int .u8 (di : Int), .int .u8 (ii : Int)] 25)) := hhS2
                  have HHT2 : Hid (Held w2 (.slice aa' X1 ca') vb' vcc u16 TB (.cells #[.int .i64 (X0 : Int), .int .i64 0, .int .i64 (Y0 : Int), .int .i64 0] 31)) := hhT2
                  have HRA : Hid (rendTo LA (LB ++ [M]) ch s i = rendTo LA LB ch s i) := rendTo_appB LA LB [M] ch s i (fun r hr => by obtain ⟨z1, z2, z3⟩ := HIN'.out r hr; omega)
                  have HBK : Hid (blk 43 (LB ++ [M]) Y0 (Y0 + (r + 1)) = blk 43 LB Y0 (Y0 + r) ++ lineN 43 M) := blk_push 43 LB M Y0 (Y0 + r) (by omega) hLB
                  have hne : some g ≠ u16.ownBlock := by
                    obtain ⟨g', c', e, _, _, hf, _⟩ := hv2
                    cases e
                    exact hf.2.2.2
                  have hl2 : Line w2 g M := by
                    obtain ⟨g', c', e, _, hl, _⟩ := hv2
                    cases e
                    exact hl
                  have HL2 : Hid (Line w2 g M) := hl2
                  clear hst1 hst2 hhS2 hhT2 hv1 hv2 hs2 hline hb1 H3r hB3 hl2 hcS
                  go_wp2_with (first | (at_builtin; refine wpList_app rfl _ _ _ _ rfl hr2 rfl rfl ?_) | fail)
                  refine (cline_43 w0.heap.size g cg u16 Y M _ HST2.out.oy HST2.out.below.size HL2.out hne (by omega)).mono ?_
                  rintro e w4 ⟨vy', rfl, ho4, hs4⟩
                  have hst4 := HST2.out.pushY hs4 ho4
                  have hhS4 := HHS2.out.stepY hs4
                  have hhT4 := HHT2.out.stepY hs4
                  have hnl := lineN_length 43 M
                  have HST4 : Hid (St w0 w4 ch (some TB) (.slice aa' X1 ca') vb' vcc vy' i LA (LB ++ [M]) (Y ++ lineN 43 M)) := hst4
                  have HHS4 : Hid (Held w4 (.slice aa' X1 ca') vb' vcc vy' SB (.cells #[.int .u8 (ci : Int), .int .u8 (di : Int), .int .u8 (ii : Int)] 25)) := hhS4
                  have HHT4 : Hid (Held w4 (.slice aa' X1 ca') vb' vcc vy' TB (.cells #[.int .i64 (X0 : Int), .int .i64 0, .int .i64 (Y0 : Int), .int .i64 0] 31)) := hhT4
                  clear hst4 hhS4 hhT4 ho4 hs4
                  go_wp2
                  go_roundw
                  case rel =>
                    refine ⟨r + 1, k + 1, LB ++ [M], Y ++ lineN 43 M, by go_num, by omega, by go_num, by omega, by simp; omega, HST4.out, HHS4.out, HHT4.out, ?_, by simp; omega, ?_⟩
                    · rw [HRA.out, HBK.out, HYY.out]; simp
                    · congr 1; omega
                  case measure => simp [intOf]; omega
                · as_aux_lemma =>
                  have hrr : r = im := by omega
                  have tr : decide ((r : Int) < (ii : Int) % 4) = false := decide_eq_false (by omega)
                  have tr' : decide (r < ii % 4) = false := decide_eq_false (by omega)
                  obtain ⟨Y1, hY1⟩ : ∃ Y1, Y1 = Y0 + r := ⟨_, rfl⟩
                  rw [← hY1] at hLB hY
                  rw [← hY1]
                  have hfm := hst.forms
                  rw [hLA, hLB] at hfm
                  obtain ⟨_, ⟨ab', cb', rfl, hcb'⟩, _⟩ := hfm
                  have hT1 := hhT.cell (i := 1) (u := .int .i64 0) rfl
                  have hT3 := hhT.cell (i := 3) (u := .int .i64 0) rfl
                  have hT0 := hhT.cell (i := 0) (u := .int .i64 (X0 : Int)) rfl
                  have hT2 := hhT.cell (i := 2) (u := .int .i64 (Y0 : Int)) rfl
                  have hf1 := frozen_of_row wr TB 1 _ 31 hhT.1
                  have hf3 := frozen_of_row wr TB 3 _ 31 hhT.1
                  have hTB : w0.heap.size ≤ TB := hw0wr
                  have hst2 := (hst.setT hTB 1 (.int .i64 (X1 : Int))).setT hTB 3 (.int .i64 (Y1 : Int))
                  obtain ⟨vc', w5, hr5, hst5⟩ := hst2.pushC (by omega)
                  have HCI' : Hid (ch i = { x0 := X0, x1 := X1, y0 := Y0, y1 := Y1 }) := by
                    show ch i = _
                    rw [HCI.out, HX1.out, hY1, hrr]
                  rw [HCI'.out] at hr5
                  have hsz : ((wr.setCell ⟨TB, 1, none⟩ (.int .i64 (X1 : Int))).setCell ⟨TB, 3, none⟩ (.int .i64 (Y1 : Int))).heap.size = wr.heap.size := by simp
                  rw [hsz] at hr5
                  have HST5 : Hid (St w0 w5 ch none (.slice aa' X1 ca') (.slice ab' Y1 cb') vc' u16 (i + 1) LA LB Y) := hst5.dropT
                  have HYY : Hid (Y = rendTo LA LB ch s (i + 1)) := by
                    show Y = _
                    rw [hY]
                    simp only [rendTo]
                    rw [HCI'.out, ← HXX.out]
                  have HP2 : Hid (PA1 = X1 ∧ PB1 = Y1) := by
                    have e1 := HP1.out.1
                    have e2 := HP1.out.2
                    have e3 := HX1.out
                    constructor
                    · omega
                    · omega
                  clear hst hhS hhT hst2 hst5 hY hsz hrr hY1
                  go_wp2_with (first | (at_builtin; refine wpList_app rfl _ _ _ _ rfl hr5 rfl rfl ?_) | fail)
                  go_roundw
                  case rel =>
                    refine ⟨i + 1, k, LA, LB, Y, by omega, by go_num, rfl, by omega, ?_, ?_, HST5.out, HYY.out, hYl, ?_, ?_, ?_, ?_⟩
                    · rw [← HPA1.out, HP2.out.1]; exact hLA
                    · rw [← HPB1.out, HP2.out.2]; exact hLB
                    · rw [← HPA1.out, HP2.out.1]
                    · rw [← HPB1.out, HP2.out.2]
                    · rw [if_neg (by omega)]
                    · rw [if_neg (by omega)]
                  case measure => simp [intOf]; omega
    · as_aux_lemma =>
      have hii : i = ns := by omega
      subst hii
      rw [if_neg (show ¬ i = 0 by omega), if_neg (show ¬ i = 0 by omega)]
      obtain ⟨NA, hNA⟩ : ∃ z, z = PS C D i := ⟨_, rfl⟩
      obtain ⟨NB, hNB⟩ : ∃ z, z = PS C I i := ⟨_, rfl⟩
      rw [← hNA] at hLA
      rw [← hNB] at hLB
      rw [← hNA, ← hNB]
      have hsN : s ≤ NA ∧ s ≤ NB := by
        have m1 := PS_mono C D (show 1 ≤ i by omega)
        have m2 := PS_mono C I (show 1 ≤ i by omega)
        have q1 : PS C D 1 = 0 + C 0 % 5 + D 0 % 4 := rfl
        have q2 : PS C I 1 = 0 + C 0 % 5 + I 0 % 4 := rfl
        have := HS.out
        omega
      have hPa := PS_le C D i
      have hPb := PS_le C I i
      rw [← hNA] at hPa
      rw [← hNB] at hPb
      have HIN : Hid (∀ q, q < i → (ch q).x0 ≤ NA ∧ (ch q).x1 ≤ NA ∧ (ch q).y1 ≤ NB) := fun q hq => by rw [HCH.out, hNA, hNB]; exact chf_in C D I hq
      have HNA : Hid (NA = PS C D i) := hNA
      have HNB : Hid (NB = PS C I i) := hNB
      obtain ⟨tm, htm, htm4⟩ : ∃ n : Nat, n = tl % 5 ∧ n ≤ 4 := ⟨_, rfl, by omega⟩
      have etm : (tl : Int) % 5 = (tm : Int) := by omega
      obtain ⟨af, haf⟩ : ∃ n : Nat, n = min ctx tm := ⟨_, rfl⟩
      have haf1 : min (ctx : Int) (tm : Int) = (af : Int) := by omega
      have haf2 : min ctx tm = af := haf.symm
      have haft : af ≤ tm := by omega
      have HAF : Hid (af = min ctx tm) := haf
      have HST0 : Hid (St w0 wr ch none u13 u14 u15 u16 i LA LB Y) := hst
      have HYY : Hid (Y = rendTo LA LB ch s i) := hY
      clear hst hY hNA hNB htm haf hlt
      have t64 : decide (i < i) = false := decide_eq_false (by omega)
      go_upto_region 55 with fail
      rw [etm]
      go_cut [34] (fun s34 wx => s34 = .int .i64 0 ∧ wr = wx)
      case first => as_aux_lemma =>
        go_wp2_with fail
        go_meet
        exact ⟨rfl, rfl⟩
      case rest =>
      obtain ⟨rfl, rfl⟩ := hcut
      clear etm haf1 haf2 t64
      generalize u15 = vcc at *
      go_wp2
      go_loopw [13, 14, 16, 17, 18, 19, 34] (fun s13 s14 s16 s17 s18 s19 s34 wz => ∃ (j k : Nat) (LA LB : List Bytes) (Y : Bytes), s34 = .int .i64 (j : Int) ∧ j ≤ tm ∧ s17 = .int .i64 (k : Int) ∧ k ≤ 10 * i + j ∧ LA.length = NA + j ∧ LB.length = NB + j ∧
        St w0 wz ch none s13 s14 vcc s16 i LA LB Y ∧ Y = rendTo LA LB ch s i ++ blk 32 LA NA (NA + min j af) ∧ Y.length ≤ 33 * k ∧ s18 = .int .i64 ((NA + min j af - s : Nat) : Int) ∧ s19 = .int .i64 ((NB + min j af - s : Nat) : Int)) (fun _ _ _ _ _ _ s34 _ => tm - (intOf s34).toNat)
      case atStart =>
        refine ⟨0, k, LA, LB, Y, rfl, Nat.zero_le _, rfl, hk, hLA, hLB, HST0.out, ?_, hYl, ?_, ?_⟩
        · rw [HYY.out, Nat.zero_min, Nat.add_zero, blk_self, List.append_nil]
        · rw [Nat.zero_min]; rfl
        · rw [Nat.zero_min]; rfl
      case round =>
        clear HST0 HYY hk hLA hLB hYl
        obtain ⟨j, k, LA, LB, Y, rfl, hj, rfl, hk, hLA, hLB, hst, hY, hYl, rfl, rfl⟩ := hrel
        by_cases hjl : j < tm
        · as_aux_lemma =>
          have HST : Hid (St w0 wr ch none u13 u14 vcc u16 i LA LB Y) := hst
          have HYY : Hid (Y = rendTo LA LB ch s i ++ blk 32 LA NA (NA + min j af)) := hY
          have hB3 := HBW.out.trans (hst.below.mono HBW.out.size)
          have H3r := H3.out.later hB3
          clear hst hY
          go_wp2_with fail
          refine (pick_any a3 l3 c3 k x3 _ H3r hl3 (by omega)).mono ?_
          rintro e w1 ⟨g, cg, rfl, hline, hg1, hg2, hb1⟩
          have hml := pickN_length x3 l3 k
          generalize pickN x3 l3 k = M at *
          have hst1 := HST.out.later hb1
          have hv1 : LineV w1 none u13 u14 vcc u16 (.slice (some ⟨g, 0, none⟩) M.length cg) M := HST.out.line hg1 hg2 hline hml
          obtain ⟨va', w2, hr2, hst2, hs2⟩ := hst1.pushA hv1 (by omega)
          have hv2 := hv1.stepA hs2
          obtain ⟨vb', w3, hr3, hst3, hs3⟩ := hst2.pushB hv2 (by omega)
          have hv3 := hv2.stepB hs3
          have HST3 : Hid (St w0 w3 ch none va' vb' vcc u16 i (LA ++ [M]) (LB ++ [M]) Y) := hst3
          have HRA : Hid (rendTo (LA ++ [M]) (LB ++ [M]) ch s i = rendTo LA LB ch s i) := rendTo_app LA LB [M] [M] ch s i (fun q hq => by obtain ⟨z1, z2, z3⟩ := HIN.out q hq; omega)
          have hne : some g ≠ u16.ownBlock := by
            obtain ⟨g', c', e, _, _, hf, _⟩ := hv3
            cases e
            exact hf.2.2.2
          have hl3' : Line w3 g M := by
            obtain ⟨g', c', e, _, hl, _⟩ := hv3
            cases e
            exact hl
          have HL3 : Hid (Line w3 g M) := hl3'
          clear hst1 hst2 hst3 hv1 hv2 hv3 hs2 hs3 hline hb1 H3r hB3 hl3'
          by_cases hja : j < af
          · as_aux_lemma =>
            have em : min j af = j := by omega
            have em1 : min (j + 1) af = j + 1 := by omega
            rw [em] at HYY ⊢
            have HBK : Hid (blk 32 (LA ++ [M]) NA (NA + (j + 1)) = blk 32 LA NA (NA + j) ++ lineN 32 M) := blk_push 32 LA M NA (NA + j) (by omega) hLA
            have HEM : Hid (min (j + 1) af = j + 1) := em1
            clear em em1
            go_wp2_with (first | (at_builtin; refine wpList_app rfl _ _ _ _ rfl hr2 rfl rfl ?_) | (at_builtin; refine wpList_app rfl _ _ _ _ rfl hr3 rfl rfl ?_) | fail)
            refine (cline_32 w0.heap.size g cg u16 Y M _ HST3.out.oy HST3.out.below.size HL3.out hne (by omega)).mono ?_
            rintro e w4 ⟨vy', rfl, ho4, hs4⟩
            have hst4 := HST3.out.pushY hs4 ho4
            have hnl := lineN_length 32 M
            have HST4 : Hid (St w0 w4 ch none va' vb' vcc vy' i (LA ++ [M]) (LB ++ [M]) (Y ++ lineN 32 M)) := hst4
            clear hst4 ho4 hs4
            go_wp2
            go_roundw
            case rel =>
              refine ⟨j + 1, k + 1, LA ++ [M], LB ++ [M], Y ++ lineN 32 M, by go_num, by omega, by go_num, by omega, by simp; omega, by simp; omega, HST4.out, ?_, by simp; omega, ?_, ?_⟩
              · rw [HEM.out, HRA.out, HBK.out, HYY.out]; simp
              · rw [HEM.out]; congr 1; omega
              · rw [HEM.out]; congr 1; omega
            case measure => simp [intOf]; omega
          · have em : min j af = af := by omega
            have em1 : min (j + 1) af = af := by omega
            rw [em] at HYY ⊢
            have HBK : Hid (blk 32 (LA ++ [M]) NA (NA + af) = blk 32 LA NA (NA + af)) := blk_app 32 LA [M] NA (NA + af) (by omega)
            have HEM : Hid (min (j + 1) af = af) := em1
            clear em em1
            go_wp2_with (first | (at_builtin; refine wpList_app rfl _ _ _ _ rfl hr2 rfl rfl ?_) | (at_builtin; refine wpList_app rfl _ _ _ _ rfl hr3 rfl rfl ?_) | fail)
            go_roundw
            case rel =>
              refine ⟨j + 1, k + 1, LA ++ [M], LB ++ [M], Y, by go_num, by omega, by go_num, by omega, by simp; omega, by simp; omega, HST3.out, ?_, by omega, ?_, ?_⟩
              · rw [HEM.out, HRA.out, HBK.out, HYY.out]
              · rw [HEM.out]
              · rw [HEM.out]
            case measure => simp [intOf]; omega
        · as_aux_lemma =>
          have hjj : j = tm := by omega
          subst hjj
          have em : min j af = af := by omega
          rw [em] at hY ⊢
          have HST : Hid (St w0 wr ch none u13 u14 vcc u16 i LA LB Y) := hst
          have HYY : Hid (Y = rendTo LA LB ch s i ++ blk 32 LA NA (NA + af)) := hY
          have HLA : Hid (LA.length = NA + j) := hLA
          have HLB : Hid (LB.length = NB + j) := hLB
          have hB1 : Below w.heap.size w wr := HBW.out.trans (hst.below.mono HBW.out.size)
          have HB1 : Hid (Below w.heap.size w wr) := hB1
          obtain ⟨aa, ca, ab, cb, gc, cc, eva, evb, evc, _⟩ := hst.ends (Below.refl _ _) (Nat.le_refl _) (show 0 < i by omega)
          subst eva evb evc
          obtain ⟨v1, w1, hr1, ho1, hs1⟩ := out_app wr.heap.size c0 (H0.out.later hB1) (Nat.le_refl _) hl0
          have hb1 : Below wr.heap.size wr w1 := hs1.nil_below
          obtain ⟨v2, w2, hr2, ho2, hs2⟩ := app9 22 ho1 hb1.size ⟨#[64, 64, 32, 45]⟩ (by rw [bytesN_length]; show _ + 4 ≤ _; omega)
          have hb2 := hb1.trans (hs2.below hb1.size ho1.ge)
          have HO2 : Hid (Own w2 wr.heap.size v2 (bytesN x0 l0 ++ [64, 64, 32, 45])) := ho2
          have HB2 : Hid (Below wr.heap.size wr w2) := hb2
          have hNl : NA + af < 3000 ∧ NB + af < 3000 := by omega
          have t64 : decide ((j : Int) < (j : Int)) = false := decide_eq_false (by omega)
          have t64' : decide (j < j) = false := decide_eq_false (by omega)
          have hr1' := hr1
          clear ho1 hs1 hs2 ho2 hb1 hb2 hst hY em hLA hLB hB1
          go_wp2_with (first | (at_builtin; refine wpList_app rfl _ _ _ _ rfl hr1 rfl rfl ?_) | (at_builtin; refine wpList_app rfl _ _ _ _ rfl hr2 rfl rfl ?_) | fail)
          refine (crange_any s (NA + af - s) w2 (by omega) (by omega)).mono ?_
          rintro e w3 ⟨vr, rfl, hor, hb3⟩
          have hrl := rangeN_length (s := s) (c := NA + af - s) (by omega) (by omega)
          have hrl2 := rangeN_length (s := s) (c := NB + af - s) (by omega) (by omega)
          have ho3 := HO2.out.kept hb3 (Nat.le_refl _)
          have hb3' := HB2.out.trans (hb3.mono HB2.out.size)
          obtain ⟨v4, w4, hr4, ho4, hs4⟩ := app22 22 ho3 hb3'.size hor.reads (by simp [bytesN_length]; omega)
          have hb4 := hb3'.trans (hs4.below hb3'.size ho3.ge)
          obtain ⟨v5, w5, hr5, ho5, hs5⟩ := app9 22 ho4 hb4.size ⟨#[32, 43]⟩ (by simp [bytesN_length]; show _ + 2 ≤ _; omega)
          have hb5 := hb4.trans (hs5.below hb4.size ho4.ge)
          have HO5 : Hid (Own w5 wr.heap.size v5 (bytesN x0 l0 ++ [64, 64, 32, 45] ++ rangeN s (NA + af - s) ++ [32, 43])) := ho5
          have HB5 : Hid (Below wr.heap.size wr w5) := hb5
          clear hor hb3 ho3 hb3' ho4 hs4 hb4 ho5 hs5 hb5 HO2 HB2 hr1 hr2
          go_wp2_with (first | (at_builtin; refine wpList_app rfl _ _ _ _ rfl hr4 rfl rfl ?_) | (at_builtin; refine wpList_app rfl _ _ _ _ rfl hr5 rfl rfl ?_) | fail)
          refine (crange_any s (NB + af - s) w5 (by omega) (by omega)).mono ?_
          rintro e w6 ⟨vr2, rfl, hor, hb6⟩
          have ho6 := HO5.out.kept hb6 (Nat.le_refl _)
          have hb6' := HB5.out.trans (hb6.mono HB5.out.size)
          obtain ⟨v7, w7, hr7, ho7, hs7⟩ := app22 22 ho6 hb6'.size hor.reads (by simp [bytesN_length]; omega)
          have hb7 := hb6'.trans (hs7.below hb6'.size ho6.ge)
          obtain ⟨v8, w8, hr8, ho8, hs8⟩ := app9 22 ho7 hb7.size ⟨#[32, 64, 64, 10]⟩ (by simp [bytesN_length]; show _ + 4 ≤ _; omega)
          have hb8 := hb7.trans (hs8.below hb7.size ho7.ge)
          have hoy := HST.out.oy.kept hb8 (Nat.le_refl _)
          obtain ⟨v9, w9, hr9, ho9, hs9⟩ := app22 22 ho8 hb8.size hoy.reads (by simp [bytesN_length]; omega)
          have hb9 := hb8.trans (hs9.below hb8.size ho8.ge)
          have HO9 : Hid (Own w9 wr.heap.size v9 (bytesN x0 l0 ++ headN s (NA + af - s) (NB + af - s) ++ rendTo LA LB ch s i ++ blk 32 LA NA (NA + af))) := by
            refine ho9.to ?_
            rw [HYY.out]
            unfold headN
            simp
          have hbw9 : Below w.heap.size w w9 := HB1.out.trans (hb9.mono HB1.out.size)
          obtain ⟨v10, w10, hr10, ho10, hs10⟩ := out_app w9.heap.size c0 (H0.out.later hbw9) (Nat.le_refl _) hl0
          have hb10 : Below w9.heap.size w9 w10 := hs10.nil_below
          have HK : Hid (Calls Ybad.prog 7 #[v10, .slice aa LA.length ca, .slice ab LB.length cb, .slice (some ⟨gc, 0, none⟩) i cc, .int .i64 (ctx : Int)] w10 fun e w' => ∃ v', e = .returned v' ∧ Own w' w9.heap.size v' (bytesN x0 l0 ++ headN s (NA + af - s) (NB + af - s) ++ rendTo LA LB ch s i ++ blk 32 LA NA (NA + af)) ∧ Below w9.heap.size w10 w') := by
            have hb910 : Below wr.heap.size wr w10 := hb9.trans (hb10.mono hb9.size)
            obtain ⟨aa', ca', ab', cb', gc', cc', e1, e2, e3, hca, hcb, hgc, hLs, hLt, hChs, h3a, h3b⟩ := HST.out.ends hb910 hb9.size (show 0 < i by omega)
            cases e1
            cases e2
            cases e3
            have hLAl := HLA.out
            have hLBl := HLB.out
            have hYe := congrArg List.length HYY.out
            rw [List.length_append] at hYe
            have hss : s ≤ C 0 % 5 := by have := HS.out; omega
            obtain ⟨m, rfl⟩ : ∃ m, i = m + 1 := ⟨i - 1, by omega⟩
            have h00 := chf_ck C D I hss (show 0 < m + 1 by omega)
            have hck : ∀ k, k ≤ m → xat ch s k ≤ (ch k).x0 ∧ (ch k).x0 ≤ (ch k).x1 ∧ (ch k).x1 ≤ LA.length ∧ (ch k).y0 ≤ (ch k).y1 ∧ (ch k).y1 ≤ LB.length := fun k hk => by
              have := chf_ck C D I hss (show k < m + 1 by omega)
              rw [← HCH.out, ← HNA.out, ← HNB.out] at this
              omega
            have hp0 : (ch 0).x0 = C 0 % 5 := by rw [HCH.out]; show PS C D 0 + C 0 % 5 = _; simp [PS]
            have hq0 : (ch 0).y0 = C 0 % 5 := by rw [HCH.out]; show PS C I 0 + C 0 % 5 = _; simp [PS]
            rw [← HCH.out, ← HNA.out, ← HNB.out] at h00
            have haf' : af = min ctx (LA.length - NA) := by have := HAF.out; omega
            exact hunk_any w9.heap.size (bytesN x0 l0) v10 aa ab ca cb gc cc m ctx LA LB ch w10 ho10 hb10.size (fun w' hx => HT.out w' ((hbw9.trans (hb10.mono hbw9.size)).trans (hx.mono hbw9.size))) hLs hLt hChs hgc hctx5 (by omega) (by omega) (by omega) (C 0 % 5) be af NA NB s _ _ HS.out rfl rfl hp0 hq0 (by rw [HCH.out, HNA.out]; rfl) (by rw [HCH.out, HNB.out]; rfl) HBE.out haf' hck hca hcb (fun q => Nat.le_trans (h3a q) (by decide)) (fun q => Nat.le_trans (h3b q) (by decide)) (by omega) (by rw [bytesN_length]; omega) (by omega) (by omega) (by omega) (by omega)
          have HB10 : Hid (Below w9.heap.size w9 w10) := hb10
          have HBW10 : Hid (Below w.heap.size w w10) := hbw9.trans (hb10.mono hbw9.size)
          have hsz9 : w.heap.size ≤ w9.heap.size := hbw9.size
          clear hor hb6 ho6 hb6' ho7 hs7 hb7 ho8 hs8 hb8 hoy ho9 hs9 hb9 hbw9 hb10 ho10 hs10 hr4 hr5 hr1'
          go_wp2_with (first | (at_builtin; refine wpList_app rfl _ _ _ _ rfl hr7 rfl rfl ?_) | (at_builtin; refine wpList_app rfl _ _ _ _ rfl hr8 rfl rfl ?_) | (at_builtin; refine wpList_app rfl _ _ _ _ rfl hr9 rfl rfl ?_) | (at_builtin; refine wpList_app rfl _ _ _ _ rfl hr10 rfl rfl ?_) | fail)
          refine HK.out.mono ?_
          rintro e w11 ⟨vg, rfl, hog, hb11⟩
          have hb12 := HB10.out.trans hb11
          have ho12 := HO9.out.kept hb12 (Nat.le_refl _)
          have hc1 := own_conv hog
          have hc2 := own_conv ho12
          have HBW12 : Hid (Below w.heap.size w w11) := HBW10.out.trans (hb11.mono hsz9)
          clear hog ho12 hb11 hb12 HK HO9 hr7 hr8 hr9 hr10
          go_wp2_with fail
          refine (Ybad.bytes_Equal _ _ _ _ _ hc1 hc2).mono ?_
          rintro e w13 ⟨rfl, rfl⟩
          have heq : (Lib.bytesOf ((bytesN x0 l0 ++ headN s (NA + af - s) (NB + af - s) ++ rendTo LA LB ch s i ++ blk 32 LA NA (NA + af)).map fun b => (b.toNat : Int)) == Lib.bytesOf ((bytesN x0 l0 ++ headN s (NA + af - s) (NB + af - s) ++ rendTo LA LB ch s i ++ blk 32 LA NA (NA + af)).map fun b => (b.toNat : Int))) = true := by simp
          rw [heq]
          clear heq hc1 hc2
          go_wp2
          go_ret
          exact ⟨rfl, HBW12.out⟩
end Go.Proofs.YbulkbtkaDoor
