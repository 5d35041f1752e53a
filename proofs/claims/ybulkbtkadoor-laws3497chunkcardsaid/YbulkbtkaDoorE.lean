import Derived.Test.YbulkbtkaDoorD
namespace Go.Proofs.YbulkbtkaDoor
open Go.RowKit
structure Ch where
  x0 : Nat
  x1 : Nat
  y0 : Nat
  y1 : Nat
def Lines (w : World) (B : Nat) (a : Option Addr) (LA : List Bytes) : Prop :=
  ∀ i, i < LA.length → ∃ ga g c, a = some ⟨ga, 0, none⟩ ∧ ga < B ∧ w.cell? ⟨ga, i, none⟩ = some (.slice (some ⟨g, 0, none⟩) (LA.getD i []).length c) ∧ g < B ∧ Line w g (LA.getD i [])
theorem Line.below {w w' : World} {B g : Nat} {M : Bytes} (h : Line w g M) (hb : Below B w w') (hg : g < B) : Line w' g M := fun j u hj => by
  rw [hb.cell (p := ⟨g, j, none⟩) hg]; exact h j u hj
theorem Lines.below {w w' : World} {B : Nat} {a : Option Addr} {LA : List Bytes} (h : Lines w B a LA) (hb : Below B w w') : Lines w' B a LA := fun i hi => by
  obtain ⟨ga, g, c, ha, hga, hc, hg, hl⟩ := h i hi
  exact ⟨ga, g, c, ha, hga, by rw [hb.cell (p := ⟨ga, i, none⟩) hga]; exact hc, hg, hl.below hb hg⟩
def Chs (w : World) (gc nc : Nat) (ch : Nat → Ch) : Prop :=
  ∀ i, i < nc → w.cell? ⟨gc, i * 4, none⟩ = some (.int .i64 ((ch i).x0 : Int)) ∧ w.cell? ⟨gc, i * 4 + 1, none⟩ = some (.int .i64 ((ch i).x1 : Int)) ∧ w.cell? ⟨gc, i * 4 + 2, none⟩ = some (.int .i64 ((ch i).y0 : Int)) ∧ w.cell? ⟨gc, i * 4 + 3, none⟩ = some (.int .i64 ((ch i).y1 : Int))
theorem Chs.below {w w' : World} {B gc nc : Nat} {ch : Nat → Ch} (h : Chs w gc nc ch) (hb : Below B w w') (hg : gc < B) : Chs w' gc nc ch := fun i hi => by
  obtain ⟨h1, h2, h3, h4⟩ := h i hi
  exact ⟨by rw [hb.cell (p := ⟨gc, _, none⟩) hg]; exact h1, by rw [hb.cell (p := ⟨gc, _, none⟩) hg]; exact h2, by rw [hb.cell (p := ⟨gc, _, none⟩) hg]; exact h3, by rw [hb.cell (p := ⟨gc, _, none⟩) hg]; exact h4⟩
theorem idx27 {B len cap k : Nat} (hk : k < len) (w : World) :
    (Instr.indexAt 27 (.slice (some ⟨B, 0, none⟩) len cap) (.int .i64 (k : Int))).run Ybad.prog w = .ok (.pointer (some ⟨B, k * 4, none⟩)) w := by
  have hs : (sizeOf 31).run Ybad.prog w = .ok 4 w := by kernel_rfl
  rw [run_indexAt_slice _ _ _ _ _ _ _ Ybad.underlying27]
  rw [if_pos (by omega)]
  show ((sizeOf 31).run Ybad.prog w).andThen _ = _
  rw [hs]
  simp [Result.andThen, Addr.add]
  omega
theorem idx27z {B len cap : Nat} (hk : 0 < len) (w : World) :
    (Instr.indexAt 27 (.slice (some ⟨B, 0, none⟩) len cap) (.int .i64 0)).run Ybad.prog w = .ok (.pointer (some ⟨B, 0, none⟩)) w := by
  have h := idx27 (B := B) (cap := cap) hk w
  rw [Nat.zero_mul] at h
  exact h
theorem idx26 {B o len cap k : Nat} (hk : k < len) (w : World) :
    (Instr.indexAt 26 (.slice (some ⟨B, o, none⟩) len cap) (.int .i64 (k : Int))).run Ybad.prog w = .ok (.pointer (some ⟨B, o + k, none⟩)) w := by
  have hs : (sizeOf 22).run Ybad.prog w = .ok 1 w := by kernel_rfl
  rw [run_indexAt_slice _ _ _ _ _ _ _ Ybad.underlying26]
  rw [if_pos (by omega)]
  show ((sizeOf 22).run Ybad.prog w).andThen _ = _
  rw [hs]
  simp [Result.andThen, Addr.add]
theorem idx26a {a : Option Addr} {B len cap k : Nat} (ha : a = some ⟨B, 0, none⟩) (hk : k < len) (w : World) :
    (Instr.indexAt 26 (.slice a len cap) (.int .i64 (k : Int))).run Ybad.prog w = .ok (.pointer (some ⟨B, k, none⟩)) w := by
  subst ha
  have h := idx26 (B := B) (o := 0) (cap := cap) hk w
  rw [Nat.zero_add] at h
  exact h
theorem idx26o {a : Option Addr} {B o len cap k : Nat} (ha : a = some ⟨B, o, none⟩) (hk : k < len) (w : World) :
    (Instr.indexAt 26 (.slice a len cap) (.int .i64 (k : Int))).run Ybad.prog w = .ok (.pointer (some ⟨B, o + k, none⟩)) w := by
  subst ha
  exact idx26 hk w
theorem slc26 {a : Option Addr} {len cap lo hi : Nat} (n : Nat) (h1 : lo + n = hi) (h2 : hi ≤ cap) : ∃ a' c', (∀ w, (Instr.slice 26 (.slice a len cap) (some (.int .i64 (lo : Int))) (some (.int .i64 (hi : Int))) none).run Ybad.prog w = .ok (.slice a' n c') w) ∧
    ∀ j ga, j < n → a = some ⟨ga, 0, none⟩ → a' = some ⟨ga, lo, none⟩ := by
  refine ⟨if cap = lo then a else a.map (·.add (lo * 1)), cap - lo, fun w => ?_, fun j ga hj ha => ?_⟩
  · have hs : (sizeOf (Ybad.prog.elem 26)).run Ybad.prog w = .ok 1 w := by kernel_rfl
    rw [run_slice_lh w 26 a len cap Ybad.underlying26 .i64 .i64 (lo : Int) (hi : Int) (by omega) (by omega) (by omega), hs]
    simp only [Result.andThen, sliced, Int.toNat_natCast]
    rw [show hi - lo = n by omega]
  · rw [if_neg (by omega), ha]
    simp only [Option.map_some, Nat.mul_one]
    rw [add_at, Nat.zero_add]
theorem appendLine_32 (B g c : Nat) (v : Value) (L M : Bytes) (w : World) (h : Own w B v L) (hB : B ≤ w.heap.size) (hm : Line w g M) (hne : some g ≠ v.ownBlock) (hl : L.length + M.length ≤ 900000) :
    Calls Ybad.prog 11 #[v, .int .u8 32, .slice (some ⟨g, 0, none⟩) M.length c] w fun e w' => ∃ v', e = .returned v' ∧ Own w' B v' (L ++ lineN 32 M) ∧ Step w v w' v' := appendLine_any B g c v L M 32 w h hB hm hne hl
theorem appendLine_45 (B g c : Nat) (v : Value) (L M : Bytes) (w : World) (h : Own w B v L) (hB : B ≤ w.heap.size) (hm : Line w g M) (hne : some g ≠ v.ownBlock) (hl : L.length + M.length ≤ 900000) :
    Calls Ybad.prog 11 #[v, .int .u8 45, .slice (some ⟨g, 0, none⟩) M.length c] w fun e w' => ∃ v', e = .returned v' ∧ Own w' B v' (L ++ lineN 45 M) ∧ Step w v w' v' := appendLine_any B g c v L M 45 w h hB hm hne hl
theorem appendLine_43 (B g c : Nat) (v : Value) (L M : Bytes) (w : World) (h : Own w B v L) (hB : B ≤ w.heap.size) (hm : Line w g M) (hne : some g ≠ v.ownBlock) (hl : L.length + M.length ≤ 900000) :
    Calls Ybad.prog 11 #[v, .int .u8 43, .slice (some ⟨g, 0, none⟩) M.length c] w fun e w' => ∃ v', e = .returned v' ∧ Own w' B v' (L ++ lineN 43 M) ∧ Step w v w' v' := appendLine_any B g c v L M 43 w h hB hm hne hl
theorem Own.far {w : World} {B g : Nat} {v : Value} {L : Bytes} (h : Own w B v L) (hg : g < B) : some g ≠ v.ownBlock := fun e => by
  have := h.ge g e.symm
  omega
theorem Own.to {w : World} {B : Nat} {v : Value} {L M : Bytes} (h : Own w B v L) (e : L = M) : Own w B v M := e ▸ h
/-! ### the plain hunk -/
def blk (p : UInt8) (LA : List Bytes) (a b : Nat) : Bytes := ((LA.take b).drop a).flatMap (lineN p)
theorem blk_self (p : UInt8) (LA : List Bytes) (a : Nat) : blk p LA a a = [] := by
  unfold blk
  rw [List.drop_eq_nil_of_le (by simp; omega)]
  rfl
theorem blk_step (p : UInt8) (LA : List Bytes) (a j : Nat) (h : a ≤ j) (hj : j < LA.length) : blk p LA a (j + 1) = blk p LA a j ++ lineN p (LA.getD j []) := by
  unfold blk
  rw [List.take_add_one, List.drop_append_of_le_length (by simp; omega), List.flatMap_append]
  simp [hj]
theorem blk_le1 (p : UInt8) (LA : List Bytes) (a j : Nat) : (blk p LA a j).length ≤ (blk p LA a (j + 1)).length := by
  by_cases hj : j < LA.length
  · by_cases h : a ≤ j
    · rw [blk_step p LA a j h hj]; simp
    · unfold blk
      rw [List.drop_eq_nil_of_le (by simp; omega)]
      simp
  · unfold blk
    rw [List.take_of_length_le (by omega), List.take_of_length_le (by omega)]
    exact Nat.le_refl _
theorem blk_le (p : UInt8) (LA : List Bytes) (a : Nat) {x b : Nat} (h : x ≤ b) : (blk p LA a x).length ≤ (blk p LA a b).length := by
  induction b with
  | zero => rw [Nat.le_zero.1 h]; exact Nat.le_refl _
  | succ b ih =>
    by_cases e : x = b + 1
    · rw [e]; exact Nat.le_refl _
    · exact Nat.le_trans (ih (by omega)) (blk_le1 p LA a b)
def xat (ch : Nat → Ch) (x : Nat) : Nat → Nat
  | 0 => x
  | k + 1 => (ch k).x1
def rendTo (LA LB : List Bytes) (ch : Nat → Ch) (x : Nat) : Nat → Bytes
  | 0 => []
  | k + 1 => rendTo LA LB ch x k ++ blk 32 LA (xat ch x k) (ch k).x0 ++ blk 45 LA (ch k).x0 (ch k).x1 ++ blk 43 LB (ch k).y0 (ch k).y1
theorem rendTo_le (LA LB : List Bytes) (ch : Nat → Ch) (x : Nat) {j k : Nat} (h : j ≤ k) : (rendTo LA LB ch x j).length ≤ (rendTo LA LB ch x k).length := by
  induction k with
  | zero => rw [Nat.le_zero.1 h]; exact Nat.le_refl _
  | succ k ih =>
    by_cases e : j = k + 1
    · rw [e]; exact Nat.le_refl _
    · refine Nat.le_trans (ih (by omega)) ?_
      simp only [rendTo, List.length_append]
      omega
def headN (s cx cy : Nat) : Bytes := [64, 64, 32, 45] ++ rangeN s cx ++ [32, 43] ++ rangeN s cy ++ [32, 64, 64, 10]
theorem rangeN_length {s c : Nat} (hs : s < 900000) (hc : c < 900000) : (rangeN s c).length ≤ 13 := by
  have h1 := dec_length 5 s (by omega)
  have h2 := dec_length 5 (s + 1) (by omega)
  have h3 := dec_length 5 c (by omega)
  unfold rangeN
  split
  · simp; omega
  · split
    · omega
    · simp; omega
set_option maxHeartbeats 1000000 in
set_option maxRecDepth 100000 in
theorem hunk_any (B : Nat) (L : Bytes) (v : Value) (aa ab : Option Addr) (ca cb gc cc m ctx : Nat) (LA LB : List Bytes) (ch : Nat → Ch) (w : World) (h : Own w B v L) (hB : B ≤ w.heap.size) (ht : Tab B w)
    (hla : Lines w B aa LA) (hlb : Lines w B ab LB) (hch : Chs w gc (m + 1) ch) (hgc : gc < B) (hctx : ctx ≤ 5) (hm : m < 1000) (hal : LA.length ≤ 100000) (hbl : LB.length ≤ 100000)
    (p0 be af xm ym s cx cy : Nat) (hs : s = p0 - be) (hcx : cx = xm + af - s) (hcy : cy = ym + af - s) (hp0 : (ch 0).x0 = p0) (hq0 : (ch 0).y0 = p0) (hxm : (ch m).x1 = xm) (hym : (ch m).y1 = ym) (hbe : be = min ctx p0) (haf : af = min ctx (LA.length - xm))
    (hck : ∀ k, k ≤ m → xat ch s k ≤ (ch k).x0 ∧ (ch k).x0 ≤ (ch k).x1 ∧ (ch k).x1 ≤ LA.length ∧ (ch k).y0 ≤ (ch k).y1 ∧ (ch k).y1 ≤ LB.length) (hca : LA.length ≤ ca) (hcb : LB.length ≤ cb)
    (hli : ∀ i, (LA.getD i []).length ≤ 1000) (hlj : ∀ i, (LB.getD i []).length ≤ 1000) (hlen : (rendTo LA LB ch s (m + 1)).length + (blk 32 LA xm (xm + af)).length ≤ 700000) (hLl : L.length ≤ 100000) (hx0 : p0 ≤ xm) (hy0 : p0 ≤ ym) (hxl : xm ≤ LA.length) (hyl : ym ≤ LB.length) :
    Calls Ybad.prog 7 #[v, .slice aa LA.length ca, .slice ab LB.length cb, .slice (some ⟨gc, 0, none⟩) (m + 1) cc, .int .i64 (ctx : Int)] w fun e w' => ∃ v', e = .returned v' ∧ Own w' B v' (L ++ headN s cx cy ++ rendTo LA LB ch s (m + 1) ++ blk 32 LA xm (xm + af)) ∧ Below B w w' := by
  have HT : Hid (Tab B w) := ht
  have HO : Hid (Own w B v L) := h
  have HLA : Hid (Lines w B aa LA) := hla
  have HLB : Hid (Lines w B ab LB) := hlb
  have HCH : Hid (Chs w gc (m + 1) ch) := hch
  have HP : Hid ((ch 0).x0 = p0) := hp0
  have HQ : Hid ((ch 0).y0 = p0) := hq0
  have HXM : Hid ((ch m).x1 = xm) := hxm
  have HYM : Hid ((ch m).y1 = ym) := hym
  clear ht h hla hlb hch hp0 hq0 hxm hym
  go_enter Ybad.func7, Ybad.ntmps7
  go_upto_region 1 with fail
  go_cut [11, 12] (fun s11 s12 wx => ∃ f l, s11 = .pointer (some ⟨f, 0, none⟩) ∧ s12 = .pointer (some ⟨l, 0, none⟩) ∧ w.heap.size ≤ f ∧ w.heap.size ≤ l ∧ Below w.heap.size w wx ∧
    wx.cell? ⟨f, 0, none⟩ = some (.int .i64 (p0 : Int)) ∧ wx.cell? ⟨f, 2, none⟩ = some (.int .i64 (p0 : Int)) ∧ wx.cell? ⟨l, 1, none⟩ = some (.int .i64 (xm : Int)) ∧ wx.cell? ⟨l, 3, none⟩ = some (.int .i64 (ym : Int)))
  case first =>
    obtain ⟨p1, p2, p3, p4⟩ := HCH.out 0 (by omega)
    obtain ⟨q1, q2, q3, q4⟩ := HCH.out m (by omega)
    rw [HP.out] at p1
    rw [HQ.out] at p3
    rw [HXM.out] at q2
    rw [HYM.out] at q4
    simp only [Nat.zero_mul, Nat.zero_add] at p1 p2 p3 p4
    have BB : ∀ o1 o2, Below w.heap.size w ((w.alloc o1).alloc o2) := fun o1 o2 => ((Below.refl _ _).alloc (Nat.le_refl _) o1).alloc (by simp) o2
    have p1' := fun o1 o2 => cell_later (BB o1 o2) p1
    have p2' := fun o1 o2 => cell_later (BB o1 o2) p2
    have p3' := fun o1 o2 => cell_later (BB o1 o2) p3
    have p4' := fun o1 o2 => cell_later (BB o1 o2) p4
    have q1' := fun o1 o2 => cell_later (BB o1 o2) q1
    have q2' := fun o1 o2 => cell_later (BB o1 o2) q2
    have q3' := fun o1 o2 => cell_later (BB o1 o2) q3
    have q4' := fun o1 o2 => cell_later (BB o1 o2) q4
    have B1 : ∀ o1, Below w.heap.size w (w.alloc o1) := fun o1 => (Below.refl _ _).alloc (Nat.le_refl _) o1
    have p1'' := fun o1 => cell_later (B1 o1) p1
    have p2'' := fun o1 => cell_later (B1 o1) p2
    have p3'' := fun o1 => cell_later (B1 o1) p3
    have p4'' := fun o1 => cell_later (B1 o1) p4
    have q1'' := fun o1 => cell_later (B1 o1) q1
    have q2'' := fun o1 => cell_later (B1 o1) q2
    have q3'' := fun o1 => cell_later (B1 o1) q3
    have q4'' := fun o1 => cell_later (B1 o1) q4
    have i0 := fun wz => idx27z (B := gc) (len := m + 1) (cap := cc) (by omega) wz
    have im := fun wz => idx27 (B := gc) (len := m + 1) (cap := cc) (k := m) (by omega) wz
    go_wp2_with fail
    go_region
    · go_wp2_with fail
      go_meet
      exact ⟨_, _, rfl, rfl, Nat.le_refl _, Nat.le_succ _, (BB _ _).drew, by first | (simp [go_sem, hxy]; done) | (simp [go_sem]; done), by simp [go_sem], by simp [go_sem], by simp [go_sem]⟩
    · go_wp2_with fail
      go_meet
      exact ⟨_, _, rfl, rfl, Nat.le_succ _, Nat.le_refl _, (BB _ _).drew, by first | (simp [go_sem, hxy]; done) | (simp [go_sem]; done), by simp [go_sem], by simp [go_sem], by simp [go_sem]⟩
  case rest =>
  obtain ⟨f, l, rfl, rfl, hf, hl, hb1, f0, f2, l1, l3⟩ := hcut
  have hm1 : min (ctx : Int) (p0 : Int) = (be : Int) := by omega
  have hm2 : min (ctx : Int) ((LA.length : Int) - (xm : Int)) = (af : Int) := by omega
  have hm3 : min ctx p0 = be := hbe.symm
  have hm4 : min ctx (LA.length - xm) = af := haf.symm
  have hbp : be ≤ p0 := by omega
  have hafl : af ≤ 5 := by omega
  have hafx : xm + af ≤ LA.length := by omega
  clear hbe haf
  go_upto_region 3 with fail
  go_cut [13, 14] (fun s13 s14 wx => s13 = .int .i64 (be : Int) ∧ s14 = .int .i64 (af : Int) ∧ wc = wx)
  case first =>
    go_wp2_with fail
    go_meet
    first | exact ⟨rfl, rfl, rfl⟩ | exact ⟨by rw [hm1], by rw [hm4], rfl⟩ | (refine ⟨?_, ?_, rfl⟩ <;> congr 1 <;> omega)
  case rest =>
  obtain ⟨rfl, rfl, rfl⟩ := hcut
  clear hm1 hm2 hm3 hm4
  go_upto_region 4 with fail
  go_cut [15, 16] (fun s15 s16 wx => s15 = .int .i64 (s : Int) ∧ s16 = .int .i64 (s : Int) ∧ Below w.heap.size w wx ∧ wx.cell? ⟨l, 1, none⟩ = some (.int .i64 (xm : Int)) ∧ wx.cell? ⟨l, 3, none⟩ = some (.int .i64 (ym : Int)))
  case first =>
    go_quiet (fail)
    go_wp2_with fail
    go_meet
    exact ⟨by congr 1; omega, by congr 1; omega, below_drewN hb1 _, l1, l3⟩
  case rest =>
  clear hb1 l1 l3 f0 f2
  obtain ⟨rfl, rfl, hb1, l1, l3⟩ := hcut
  have hsle : s ≤ p0 := by omega
  go_upto_region 5 with fail
  go_cut [17, 18] (fun s17 s18 wx => s17 = .int .i64 ((xm + af : Nat) : Int) ∧ s18 = .int .i64 ((ym + af : Nat) : Int) ∧ Below w.heap.size w wx)
  case first =>
    go_quiet (fail)
    go_wp2_with fail
    go_meet
    exact ⟨by congr 1, by congr 1, below_drewN hb1 _⟩
  case rest =>
  clear hb1 l1 l3
  obtain ⟨rfl, rfl, hb1⟩ := hcut
  have ho5 := HO.out.kept hb1 (Nat.le_refl _)
  have hb5 : Below B w wc := hb1.mono hB
  have hB5 := Nat.le_trans hB hb1.size
  clear hb1
  have ex : (xm : Int) + (af : Int) - (s : Int) = (cx : Int) := by omega
  have ey : (ym : Int) + (af : Int) - (s : Int) = (cy : Int) := by omega
  obtain ⟨v1, w6, hr1, ho6, hs6⟩ := app9 22 ho5 hB5 ⟨#[64, 64, 32, 45]⟩ (by show _ + 4 ≤ _; omega)
  have hb6 := hb5.trans (hs6.below hB5 ho5.ge)
  have H6 : Hid (Own w6 B v1 (L ++ [64, 64, 32, 45])) := ho6
  have EX : Hid ((xm : Int) + (af : Int) - (s : Int) = (cx : Int)) := ex
  have EY : Hid ((ym : Int) + (af : Int) - (s : Int) = (cy : Int)) := ey
  have hcxl : cx < 900000 := by omega
  have hcyl : cy < 900000 := by omega
  clear ho5 hs6 ho6 ex ey hs hcx hcy
  go_wp2_with (first | (at_builtin; refine wpList_app rfl _ _ _ _ rfl hr1 rfl rfl ?_) | fail)
  rw [EX.out]
  refine (appendRange_any B _ s cx v1 _ H6.out (Nat.le_trans hB hb6.size) (HT.out.on hb6) (by omega) hcxl (by simp; omega)).mono ?_
  rintro e w7 ⟨v2, rfl, ho7, hb7⟩
  have hb7 := hb6.trans hb7
  have hrl := rangeN_length (s := s) (c := cx) (by omega) hcxl
  have hrl2 := rangeN_length (s := s) (c := cy) (by omega) hcyl
  obtain ⟨v3, w8, hr3, ho8, hs8⟩ := app9 22 ho7 (Nat.le_trans hB hb7.size) ⟨#[32, 43]⟩ (by simp; show _ + 2 ≤ _; omega)
  have hb8 := hb7.trans (hs8.below (Nat.le_trans hB hb7.size) ho7.ge)
  have H8 : Hid (Own w8 B v3 (L ++ [64, 64, 32, 45] ++ rangeN s cx ++ [32, 43])) := ho8
  clear ho7 ho8 hs8 hb6 H6
  go_wp2_with (first | (at_builtin; refine wpList_app rfl _ _ _ _ rfl hr3 rfl rfl ?_) | fail)
  rw [EY.out]
  refine (appendRange_any B _ s cy v3 _ H8.out (Nat.le_trans hB hb8.size) (HT.out.on hb8) (by omega) hcyl (by simp; omega)).mono ?_
  rintro e w9 ⟨v4, rfl, ho9, hb9⟩
  have hb9 := hb8.trans hb9
  obtain ⟨v5, wt, hr5, hot, hst⟩ := app9 22 ho9 (Nat.le_trans hB hb9.size) ⟨#[32, 64, 64, 10]⟩ (by simp; show _ + 4 ≤ _; omega)
  have hbt := hb9.trans (hst.below (Nat.le_trans hB hb9.size) ho9.ge)
  have hot' : Own wt B v5 (L ++ headN s cx cy) := by
    have e : L ++ headN s cx cy = L ++ [64, 64, 32, 45] ++ rangeN s cx ++ [32, 43] ++ rangeN s cy ++ [32, 64, 64, 10] := by unfold headN; simp
    rw [e]; exact hot
  have HOT : Hid (Own wt B v5 (L ++ headN s cx cy)) := hot'
  have hhl : (L ++ headN s cx cy).length ≤ L.length + 40 := by unfold headN; simp; omega
  obtain ⟨H, hH⟩ : ∃ H, H = L ++ headN s cx cy := ⟨_, rfl⟩
  rw [← hH] at HOT hhl
  have HH : Hid (H = L ++ headN s cx cy) := hH
  clear hot' hot hst ho9 hb7 hb8 H8 hH hrl hrl2
  go_wp2_with (first | (at_builtin; refine wpList_app rfl _ _ _ _ rfl hr5 rfl rfl ?_) | fail)
  have HCK : Hid (∀ k, k ≤ m → xat ch s k ≤ (ch k).x0 ∧ (ch k).x0 ≤ (ch k).x1 ∧ (ch k).x1 ≤ LA.length ∧ (ch k).y0 ≤ (ch k).y1 ∧ (ch k).y1 ≤ LB.length) := hck
  have HLI : Hid (∀ i, (LA.getD i []).length ≤ 1000) := hli
  have HLJ : Hid (∀ i, (LB.getD i []).length ≤ 1000) := hlj
  clear hck hli hlj hr1 hr3 hr5 hb5 hB5 hb9
  go_loopw [0, 19, 83] (fun s0 s19 s83 wr => ∃ k : Nat, k ≤ m + 1 ∧ s83 = .int .i64 (k : Int) ∧ s19 = .int .i64 (xat ch s k : Int) ∧ Own wr B s0 (H ++ rendTo LA LB ch s k) ∧ Below B w wr) (fun _ _ s83 _ => m + 1 - (intOf s83).toNat)
  case atStart => exact ⟨0, Nat.zero_le _, rfl, rfl, HOT.out.to (by simp [rendTo]), hbt⟩
  case round =>
    obtain ⟨k, hk, rfl, rfl, hown, hbel⟩ := hrel
    clear HOT hbt
    by_cases hlt : k < m + 1
    · obtain ⟨q1, q2, q3, q4⟩ := HCH.out.below hbel hgc k hlt
      obtain ⟨k1, k2, k3, k4, k5⟩ := HCK.out k (by omega)
      have hrend : (rendTo LA LB ch s k).length + (blk 32 LA (xat ch s k) (ch k).x0).length + (blk 45 LA (ch k).x0 (ch k).x1).length + (blk 43 LB (ch k).y0 (ch k).y1).length ≤ 700000 := by
        have := rendTo_le LA LB ch s (show k + 1 ≤ m + 1 by omega)
        simp only [rendTo, List.length_append] at this hlen
        omega
      have HR : Hid (rendTo LA LB ch s (k + 1) = rendTo LA LB ch s k ++ blk 32 LA (xat ch s k) (ch k).x0 ++ blk 45 LA (ch k).x0 (ch k).x1 ++ blk 43 LB (ch k).y0 (ch k).y1) := rfl
      have HX : Hid (xat ch s (k + 1) = (ch k).x1) := rfl
      generalize xat ch s k = X at *
      generalize (ch k).x0 = x0 at *
      generalize (ch k).x1 = x1 at *
      generalize (ch k).y0 = y0 at *
      generalize (ch k).y1 = y1 at *
      have ik := fun wz => idx27 (B := gc) (len := m + 1) (cap := cc) (k := k) hlt wz
      obtain ⟨R, hR⟩ : ∃ R, R = H ++ rendTo LA LB ch s k := ⟨_, rfl⟩
      have hRl : R.length ≤ L.length + 40 + (rendTo LA LB ch s k).length := by rw [hR]; simp; omega
      rw [← hR] at hown
      have HRR : Hid (R = H ++ rendTo LA LB ch s k) := hR
      have hown0 := hown.alloc (.cells #[.int .i64 (x0 : Int), .int .i64 (x1 : Int), .int .i64 (y0 : Int), .int .i64 (y1 : Int)] 31)
      have hne0 : some wr.heap.size ≠ u0.ownBlock := fun e => by
        have := (World.ownsRow.lt hown _ e.symm).2
        omega
      have hne0' : (wr.alloc (.cells #[.int .i64 (x0 : Int), .int .i64 (x1 : Int), .int .i64 (y0 : Int), .int .i64 (y1 : Int)] 31)).heap.size = wr.heap.size + 1 := by simp
      have z0 : (wr.alloc (.cells #[.int .i64 (x0 : Int), .int .i64 (x1 : Int), .int .i64 (y0 : Int), .int .i64 (y1 : Int)] 31)).cell? ⟨wr.heap.size, 0, none⟩ = some (.int .i64 (x0 : Int)) := by simp [go_sem]
      have z1 : (wr.alloc (.cells #[.int .i64 (x0 : Int), .int .i64 (x1 : Int), .int .i64 (y0 : Int), .int .i64 (y1 : Int)] 31)).cell? ⟨wr.heap.size, 1, none⟩ = some (.int .i64 (x1 : Int)) := by simp [go_sem]
      have z2 : (wr.alloc (.cells #[.int .i64 (x0 : Int), .int .i64 (x1 : Int), .int .i64 (y0 : Int), .int .i64 (y1 : Int)] 31)).cell? ⟨wr.heap.size, 2, none⟩ = some (.int .i64 (y0 : Int)) := by simp [go_sem]
      have z3 : (wr.alloc (.cells #[.int .i64 (x0 : Int), .int .i64 (x1 : Int), .int .i64 (y0 : Int), .int .i64 (y1 : Int)] 31)).cell? ⟨wr.heap.size, 3, none⟩ = some (.int .i64 (y1 : Int)) := by simp [go_sem]
      have hbA := hbel.alloc (Nat.le_trans hB hbel.size) (.cells #[.int .i64 (x0 : Int), .int .i64 (x1 : Int), .int .i64 (y0 : Int), .int .i64 (y1 : Int)] 31)
      have HOWN0 : Hid (Own (wr.alloc (.cells #[.int .i64 (x0 : Int), .int .i64 (x1 : Int), .int .i64 (y0 : Int), .int .i64 (y1 : Int)] 31)) B u0 R) := hown0
      have hge := hown.ge
      have HBA : Hid (Below B w (wr.alloc (.cells #[.int .i64 (x0 : Int), .int .i64 (x1 : Int), .int .i64 (y0 : Int), .int .i64 (y1 : Int)] 31))) := hbA
      clear hown hown0 hR hbel hbA
      have t84 : decide (k < m + 1) = true := decide_eq_true hlt
      have t84' : decide ((k : Int) < (m : Int) + 1) = true := decide_eq_true (by omega)
      go_wp2
      have Z : ∃ WA : World, WA = (wr.alloc (.cells #[.int .i64 (x0 : Int), .int .i64 (x1 : Int), .int .i64 (y0 : Int), .int .i64 (y1 : Int)] 31)) := ⟨_, rfl⟩
      obtain ⟨WA, hWA⟩ := Z
      rw [← hWA] at HOWN0 HBA z0 z1 z2 z3 hne0' ⊢
      clear hWA q1 q2 q3 q4 ik
      generalize wr.heap.size = D at *
      generalize u0 = vk at *
      go_loopw [0, 19] (fun s0 s19 wz => ∃ x : Nat, s19 = .int .i64 (x : Int) ∧ X ≤ x ∧ x ≤ x0 ∧ Own wz B s0 (R ++ blk 32 LA X x) ∧ Step WA vk wz s0) (fun _ s19 _ => x0 - (intOf s19).toNat)
      case atStart => exact ⟨X, rfl, Nat.le_refl _, k1, HOWN0.out.to (by rw [blk_self]; simp), Step.refl _ _⟩
      case round =>
        obtain ⟨x, rfl, hx1, hx2, hown, hstp⟩ := hrel
        have hbz : Below B w wr := HBA.out.trans (hstp.below (Nat.le_trans hB HBA.out.size) hge)
        have hBz := Nat.le_trans hB hbz.size
        have y0' := hstp.cell hne0 z0
        by_cases hx : x < x0
        · obtain ⟨ga, g, c, ha, hga, hcell, hg, hline⟩ := HLA.out.below hbz x (by omega)
          have hix := fun wz => idx26a (cap := ca) (k := x) (len := LA.length) ha (by omega) wz
          have hlx := HLI.out x
          have hbl1 := blk_le 32 LA X (show x ≤ x0 by omega)
          have HST : Hid (blk 32 LA X (x + 1) = blk 32 LA X x ++ lineN 32 (LA.getD x [])) := blk_step 32 LA X x hx1 (by omega)
          have HL : Hid (Line wr g (LA.getD x [])) := hline
          have HOW : Hid (Own wr B u0 (R ++ blk 32 LA X x)) := hown
          have HSTP : Hid (Step WA vk wr u0) := hstp
          have hfar := hown.far hg
          generalize LA.getD x [] = M at *
          clear ha hline hown hstp
          go_wp2_with fail
          refine (appendLine_32 B g c u0 _ M _ HOW.out hBz HL.out hfar (by simp; omega)).mono ?_
          rintro e w2 ⟨v2, rfl, ho2, hs2⟩
          have HO2 : Hid (Own w2 B v2 (R ++ blk 32 LA X x ++ lineN 32 M)) := ho2
          have HS2 : Hid (Step WA vk w2 v2) := HSTP.out.trans hs2
          clear ho2 hs2
          go_wp2
          go_roundw
          case rel => exact ⟨x + 1, by go_num, by omega, by omega, HO2.out.to (by rw [HST.out]; simp), HS2.out⟩
          case measure => simp [intOf]; omega
        · have hxx : x = x0 := by omega
          subst hxx
          clear hx hx1 hx2
          have y1' := hstp.cell hne0 z1
          have y2' := hstp.cell hne0 z2
          have y3' := hstp.cell hne0 z3
          obtain ⟨n1, hn1⟩ : ∃ n1, x + n1 = x1 := ⟨x1 - x, by omega⟩
          obtain ⟨a1, c1, hsl1, ha1⟩ := slc26 (a := aa) (len := LA.length) (cap := ca) (lo := x) (hi := x1) n1 hn1 (by omega)
          have HOW : Hid (Own wr B u0 (R ++ blk 32 LA X x)) := hown
          have HSTP : Hid (Step WA vk wr u0) := hstp
          have HA1 : Hid (∀ j ga, j < n1 → aa = some ⟨ga, 0, none⟩ → a1 = some ⟨ga, x, none⟩) := ha1
          obtain ⟨R2, hR2⟩ : ∃ R2, R2 = R ++ blk 32 LA X x := ⟨_, rfl⟩
          rw [← hR2] at HOW
          have HR2 : Hid (R2 = R ++ blk 32 LA X x) := hR2
          have hR2l : R2.length = R.length + (blk 32 LA X x).length := by rw [hR2]; simp
          clear hown hstp ha1 hR2 hbz hBz
          go_wp2
          go_loopw [0, 106] (fun s0 s106 wz => ∃ j : Nat, s106 = .int .i64 (j : Int) ∧ j ≤ n1 ∧ Own wz B s0 (R2 ++ blk 45 LA x (x + j)) ∧ Step WA vk wz s0) (fun _ s106 _ => n1 - (intOf s106).toNat)
          case atStart => exact ⟨0, rfl, Nat.zero_le _, HOW.out.to (by rw [Nat.add_zero, blk_self]; simp), HSTP.out⟩
          case round =>
            obtain ⟨j, rfl, hj1, hown, hstp⟩ := hrel
            clear HOW HSTP
            have hbz : Below B w wr := HBA.out.trans (hstp.below (Nat.le_trans hB HBA.out.size) hge)
            have hBz := Nat.le_trans hB hbz.size
            by_cases hj : j < n1
            · obtain ⟨ga, g, c, ha, hga, hcell, hg, hline⟩ := HLA.out.below hbz (x + j) (by omega)
              have hix := fun wz => idx26o (cap := c1) (k := j) (len := n1) (HA1.out j ga hj ha) hj wz
              have hlx := HLI.out (x + j)
              have hbl1 := blk_le 45 LA x (show x + j ≤ x1 by omega)
              have HST : Hid (blk 45 LA x (x + j + 1) = blk 45 LA x (x + j) ++ lineN 45 (LA.getD (x + j) [])) := blk_step 45 LA x (x + j) (by omega) (by omega)
              have HL : Hid (Line wr g (LA.getD (x + j) [])) := hline
              have HOW : Hid (Own wr B u0 (R2 ++ blk 45 LA x (x + j))) := hown
              have HSTP : Hid (Step WA vk wr u0) := hstp
              have hfar := hown.far hg
              generalize LA.getD (x + j) [] = M at *
              clear ha hline hown hstp
              go_wp2_with fail
              refine (appendLine_45 B g c u0 _ M _ HOW.out hBz HL.out hfar (by simp; omega)).mono ?_
              rintro e w2 ⟨v2, rfl, ho2, hs2⟩
              have HO2 : Hid (Own w2 B v2 (R2 ++ blk 45 LA x (x + j) ++ lineN 45 M)) := ho2
              have HS2 : Hid (Step WA vk w2 v2) := HSTP.out.trans hs2
              clear ho2 hs2
              go_wp2
              go_roundw
              case rel => exact ⟨j + 1, by go_num, by omega, HO2.out.to (by rw [← Nat.add_assoc, HST.out]; simp), HS2.out⟩
              case measure => simp [intOf]; omega
            · have hjj : j = n1 := by omega
              subst hjj
              clear hj hj1
              rw [hn1] at hown
              have yy1 := hstp.cell hne0 z1
              have yy2 := hstp.cell hne0 z2
              have yy3 := hstp.cell hne0 z3
              obtain ⟨n2, hn2⟩ : ∃ n2, y0 + n2 = y1 := ⟨y1 - y0, by omega⟩
              obtain ⟨a2, c2, hsl2, ha2⟩ := slc26 (a := ab) (len := LB.length) (cap := cb) (lo := y0) (hi := y1) n2 hn2 (by omega)
              have HOW : Hid (Own wr B u0 (R2 ++ blk 45 LA x x1)) := hown
              have HSTP : Hid (Step WA vk wr u0) := hstp
              have HA2 : Hid (∀ j ga, j < n2 → ab = some ⟨ga, 0, none⟩ → a2 = some ⟨ga, y0, none⟩) := ha2
              obtain ⟨R3, hR3⟩ : ∃ R3, R3 = R2 ++ blk 45 LA x x1 := ⟨_, rfl⟩
              rw [← hR3] at HOW
              have HR3 : Hid (R3 = R2 ++ blk 45 LA x x1) := hR3
              have hR3l : R3.length = R2.length + (blk 45 LA x x1).length := by rw [hR3]; simp
              clear hown hstp ha2 hR3 hbz hBz
              go_wp2
              go_loopw [0, 121] (fun s0 s121 wz => ∃ j : Nat, s121 = .int .i64 (j : Int) ∧ j ≤ n2 ∧ Own wz B s0 (R3 ++ blk 43 LB y0 (y0 + j)) ∧ Step WA vk wz s0) (fun _ s121 _ => n2 - (intOf s121).toNat)
              case atStart => exact ⟨0, rfl, Nat.zero_le _, HOW.out.to (by rw [Nat.add_zero, blk_self]; simp), HSTP.out⟩
              case round =>
                obtain ⟨i, rfl, hi1, hown, hstp⟩ := hrel
                clear HOW HSTP
                have hbz : Below B w wr := HBA.out.trans (hstp.below (Nat.le_trans hB HBA.out.size) hge)
                have hBz := Nat.le_trans hB hbz.size
                by_cases hi : i < n2
                · obtain ⟨ga, g, c, ha, hga, hcell, hg, hline⟩ := HLB.out.below hbz (y0 + i) (by omega)
                  have hix := fun wz => idx26o (cap := c2) (k := i) (len := n2) (HA2.out i ga hi ha) hi wz
                  have hlx := HLJ.out (y0 + i)
                  have hbl1 := blk_le 43 LB y0 (show y0 + i ≤ y1 by omega)
                  have HST : Hid (blk 43 LB y0 (y0 + i + 1) = blk 43 LB y0 (y0 + i) ++ lineN 43 (LB.getD (y0 + i) [])) := blk_step 43 LB y0 (y0 + i) (by omega) (by omega)
                  have HL : Hid (Line wr g (LB.getD (y0 + i) [])) := hline
                  have HOW : Hid (Own wr B u0 (R3 ++ blk 43 LB y0 (y0 + i))) := hown
                  have HSTP : Hid (Step WA vk wr u0) := hstp
                  have hfar := hown.far hg
                  generalize LB.getD (y0 + i) [] = M at *
                  clear ha hline hown hstp
                  go_wp2_with fail
                  refine (appendLine_43 B g c u0 _ M _ HOW.out hBz HL.out hfar (by simp; omega)).mono ?_
                  rintro e w2 ⟨v2, rfl, ho2, hs2⟩
                  have HO2 : Hid (Own w2 B v2 (R3 ++ blk 43 LB y0 (y0 + i) ++ lineN 43 M)) := ho2
                  have HS2 : Hid (Step WA vk w2 v2) := HSTP.out.trans hs2
                  clear ho2 hs2
                  go_wp2
                  go_roundw
                  case rel => exact ⟨i + 1, by go_num, by omega, HO2.out.to (by rw [← Nat.add_assoc, HST.out]; simp), HS2.out⟩
                  case measure => simp [intOf]; omega
                · have hii : i = n2 := by omega
                  subst hii
                  rw [hn2] at hown
                  have yz1 := hstp.cell hne0 z1
                  have HOW : Hid (Own wr B u0 (R3 ++ blk 43 LB y0 y1)) := hown
                  clear hown hstp
                  go_wp2
                  go_roundw
                  case rel => exact ⟨k + 1, by omega, by go_num, by rw [HX.out], HOW.out.to (by rw [HR.out, HR3.out, HR2.out, HRR.out]; simp), hbz⟩
                  case measure => simp [intOf]; omega
    · have hkk : k = m + 1 := by omega
      have exm : xat ch s k = xm := by rw [hkk]; exact HXM.out
      rw [exm]
      rw [show rendTo LA LB ch s k = rendTo LA LB ch s (m + 1) by rw [hkk]] at hown
      have t84 : decide (k < m + 1) = false := decide_eq_false (by omega)
      have t84' : decide ((k : Int) < (m : Int) + 1) = false := decide_eq_false (by omega)
      clear hkk hlt hk
      obtain ⟨R, hR⟩ : ∃ R, R = H ++ rendTo LA LB ch s (m + 1) := ⟨_, rfl⟩
      have hRl : R.length ≤ L.length + 40 + (rendTo LA LB ch s (m + 1)).length := by rw [hR]; simp; omega
      rw [← hR] at hown
      have HRR : Hid (R = H ++ rendTo LA LB ch s (m + 1)) := hR
      have HOW : Hid (Own wr B u0 R) := hown
      have HB0 : Hid (Below B w wr) := hbel
      clear hown hR hbel exm
      go_wp2
      go_loopw [0, 19] (fun s0 s19 wz => ∃ x : Nat, s19 = .int .i64 (x : Int) ∧ xm ≤ x ∧ x ≤ xm + af ∧ Own wz B s0 (R ++ blk 32 LA xm x) ∧ Below B w wz) (fun _ s19 _ => xm + af - (intOf s19).toNat)
      case atStart => exact ⟨xm, rfl, Nat.le_refl _, Nat.le_add_right _ _, HOW.out.to (by rw [blk_self]; simp), HB0.out⟩
      case round =>
        obtain ⟨x, rfl, hx1, hx2, hown, hbz⟩ := hrel
        clear HOW HB0
        have hBz := Nat.le_trans hB hbz.size
        by_cases hx : x < xm + af
        · obtain ⟨ga, g, c, ha, hga, hcell, hg, hline⟩ := HLA.out.below hbz x (by omega)
          have hix := fun wz => idx26a (cap := ca) (k := x) (len := LA.length) ha (by omega) wz
          have hlx := HLI.out x
          have hbl1 := blk_le 32 LA xm (show x ≤ xm + af by omega)
          have HST : Hid (blk 32 LA xm (x + 1) = blk 32 LA xm x ++ lineN 32 (LA.getD x [])) := blk_step 32 LA xm x hx1 (by omega)
          have HL : Hid (Line wr g (LA.getD x [])) := hline
          have HOW : Hid (Own wr B u0 (R ++ blk 32 LA xm x)) := hown
          have hfar := hown.far hg
          have hge := hown.ge
          generalize LA.getD x [] = M at *
          clear ha hline hown
          go_wp2_with fail
          refine (appendLine_32 B g c u0 _ M _ HOW.out hBz HL.out hfar (by simp; omega)).mono ?_
          rintro e w2 ⟨v2, rfl, ho2, hs2⟩
          have HO2 : Hid (Own w2 B v2 (R ++ blk 32 LA xm x ++ lineN 32 M)) := ho2
          have hb2 := hbz.trans (hs2.below hBz hge)
          clear ho2 hs2
          go_wp2
          go_roundw
          case rel => exact ⟨x + 1, by go_num, by omega, by omega, HO2.out.to (by rw [HST.out]; simp), hb2⟩
          case measure => simp [intOf]; omega
        · have hxx : x = xm + af := by omega
          have HOW : Hid (Own wr B u0 (R ++ blk 32 LA xm x)) := hown
          clear hown
          go_wp2
          go_ret
          refine ⟨_, rfl, HOW.out.to ?_, hbz⟩
          rw [hxx, HRR.out, HH.out]
end Go.Proofs.YbulkbtkaDoor
