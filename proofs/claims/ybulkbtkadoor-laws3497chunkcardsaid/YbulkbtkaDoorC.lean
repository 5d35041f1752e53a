import Derived.Test.YbulkbtkaDoorB
namespace Go.Proofs.YbulkbtkaDoor
open Go.RowKit
def ByteAt (w : World) (a : Option Addr) (len : Nat) (x : Nat → Nat) : Prop :=
  ∀ k, k < len → ∃ b off, a = some ⟨b, off, none⟩ ∧ w.cell? ⟨b, off + k, none⟩ = some (.int .u8 (x k : Int)) ∧ x k ≤ 255
def tabStr : Nat → ByteArray
  | 0 => ⟨#[97, 10]⟩
  | 1 => ⟨#[98, 10]⟩
  | 2 => ⟨#[]⟩
  | 3 => ⟨#[99]⟩
  | 4 => ⟨#[10]⟩
  | _ => ⟨#[100, 100, 10]⟩
def pickN (x : Nat → Nat) (len k : Nat) : Bytes := if len = 0 then [112, 10] else (tabStr (x (k % len) % 6)).data.toList
theorem conv (s : ByteArray) (w : World) : ∃ g c w', (convert 9 22 (.string s)).run Ybad.prog w = .ok (.slice (some ⟨g, 0, none⟩) s.data.toList.length c) w' ∧ Line w' g s.data.toList ∧ w.heap.size ≤ g ∧ g < w'.heap.size ∧ Below w.heap.size w w' := by
  have h := run_bytes_of_string (P := Ybad.prog) w 9 22 5 s Ybad.underlying9 Ybad.underlying22 Ybad.underlying5
  have hsz : s.data.toList.length = s.size := by rw [Array.length_toList]; rfl
  refine ⟨_, _, _, by rw [hsz]; exact h, fun j u hj => ?_, Nat.le_refl _, by simp, ((Below.refl _ _).drew).alloc (by simp) _⟩
  obtain ⟨hj1, rfl⟩ : ∃ h : j < s.data.size, u = .int .u8 (s.data[j].toNat : Int) := by
    unfold Lib.byteCells at hj
    rw [List.getElem?_map] at hj
    cases hx : s.data.toList[j]? with
    | none => rw [hx] at hj; cases hj
    | some b =>
      rw [hx] at hj
      simp only [Option.map_some, Option.some.injEq] at hj
      rw [Array.getElem?_toList] at hx
      obtain ⟨h1, h2⟩ := Array.getElem?_eq_some_iff.1 hx
      exact ⟨h1, by rw [h2, hj]⟩
  have := bytesRow_at s (grownCap w s.size 0 5) j hj1
  exact (cell_of_row _ w.heap.size j _ 5 _ (heap_alloc_new w.drew _)).trans this
theorem idx22r {a : Option Addr} {b off len cap k : Nat} (ha : a = some ⟨b, off, none⟩) (hl : 0 < len) (w : World) :
    (Instr.indexAt 22 (.slice a len cap) (.int .i64 ((k : Int) % (len : Int)))).run Ybad.prog w = .ok (.pointer (some ⟨b, off + k % len, none⟩)) w := by
  subst ha
  have hk : k % len < len := Nat.mod_lt _ hl
  have hs : (sizeOf 5).run Ybad.prog w = .ok 1 w := by kernel_rfl
  rw [← Int.natCast_emod, run_indexAt_slice _ _ _ _ _ _ _ Ybad.underlying22]
  rw [if_pos (by omega)]
  show ((sizeOf 5).run Ybad.prog w).andThen _ = _
  rw [hs]
  simp only [Result.andThen]
  rw [show (((k % len : Nat) : Int).toNat * 1) = k % len by omega]
  unfold Addr.add
  split
  · simp_all
  · rfl
set_option maxHeartbeats 400000 in
set_option maxRecDepth 100000 in
theorem pick_any (a : Option Addr) (len cap k : Nat) (x : Nat → Nat) (w : World) (h : ByteAt w a len x) (hl : len ≤ 1024) (hk : k ≤ 1000000) :
    Calls Ybad.prog 4 #[.slice a len cap, .int .i64 (k : Int)] w fun e w' => ∃ g c, e = .returned (.slice (some ⟨g, 0, none⟩) (pickN x len k).length c) ∧ Line w' g (pickN x len k) ∧ w.heap.size ≤ g ∧ g < w'.heap.size ∧ Below w.heap.size w w' := by
  by_cases h0 : len = 0
  · subst h0
    have e : pickN x 0 k = [112, 10] := rfl
    rw [e]
    obtain ⟨w1, hw1⟩ : ∃ w1, w1 = w.alloc (.cells #[.string ⟨#[97, 10]⟩, .string ⟨#[98, 10]⟩, .string ⟨#[]⟩, .string ⟨#[99]⟩, .string ⟨#[10]⟩, .string ⟨#[100, 100, 10]⟩] 36) := ⟨_, rfl⟩
    have hsz : w1.heap.size = w.heap.size + 1 := by rw [hw1]; simp
    have hb1 : Below w.heap.size w w1 := by rw [hw1]; exact (Below.refl _ _).alloc (Nat.le_refl _) _
    have hcv := Go.Joins.run_convert_bytes_const_at (P := Ybad.prog) w1 22 5 #[.int .u8 112, .int .u8 10] 2 2 (w.heap.size + 1) hsz.symm Ybad.underlying22 Ybad.underlying5
    have hlt : Below w.heap.size w (w1.alloc (.cells #[.int .u8 112, .int .u8 10] 5 (2, 3))) := hb1.alloc (by omega) _
    have hline : Line (w1.alloc (.cells #[.int .u8 112, .int .u8 10] 5 (2, 3))) (w.heap.size + 1) [112, 10] := by
      intro j u hj
      rw [← hsz]
      rw [cell_of_row _ _ _ _ 5 _ (heap_alloc_new w1 _)]
      simpa [Lib.byteCells] using hj
    have hsz2 : (w1.alloc (.cells #[.int .u8 112, .int .u8 10] 5 (2, 3))).heap.size = w.heap.size + 2 := by simp [hsz]
    have HL : Hid (Line (w1.alloc (.cells #[.int .u8 112, .int .u8 10] 5 (2, 3))) (w.heap.size + 1) [112, 10]) := hline
    clear hline
    subst hw1
    go_enter Ybad.func4, Ybad.ntmps4
    go_wp2
    go_ret
    exact ⟨_, _, rfl, HL.out, by omega, by rw [hsz2]; omega, hlt⟩
  · obtain ⟨b, o, ha, hc, hx⟩ := h (k % len) (Nat.mod_lt _ (by omega))
    have hi := fun wz => idx22r (k := k) (len := len) (cap := cap) ha (by omega) wz
    have hc' : ∀ o', (w.alloc o').cell? ⟨b, o + k % len, none⟩ = some (.int .u8 (x (k % len) : Int)) := fun o' => cell_later ((Below.refl _ _).alloc (Nat.le_refl _) o') hc
    unfold pickN
    rw [if_neg h0]
    generalize x (k % len) = y at *
    have hct : (w.alloc (.cells #[.string ⟨#[97, 10]⟩, .string ⟨#[98, 10]⟩, .string ⟨#[]⟩, .string ⟨#[99]⟩, .string ⟨#[10]⟩, .string ⟨#[100, 100, 10]⟩] 36)).cell? ⟨w.heap.size, y % 6, none⟩ = some (.string (tabStr (y % 6))) := by
      have hlt : y % 6 < 6 := Nat.mod_lt _ (by decide)
      generalize y % 6 = r at hlt
      match r, hlt with
      | 0, _ => simp [go_sem, tabStr]
      | 1, _ => simp [go_sem, tabStr]
      | 2, _ => simp [go_sem, tabStr]
      | 3, _ => simp [go_sem, tabStr]
      | 4, _ => simp [go_sem, tabStr]
      | 5, _ => simp [go_sem, tabStr]
      | m + 6, h => omega
    clear h ha hc
    generalize tabStr (y % 6) = s at *
    obtain ⟨g, c, w1, hcv, hline, hg, hg2, hb1⟩ := conv s (w.alloc (.cells #[.string ⟨#[97, 10]⟩, .string ⟨#[98, 10]⟩, .string ⟨#[]⟩, .string ⟨#[99]⟩, .string ⟨#[10]⟩, .string ⟨#[100, 100, 10]⟩] 36))
    have hbw := ((Below.refl w.heap.size w).alloc (Nat.le_refl _) (.cells #[.string ⟨#[97, 10]⟩, .string ⟨#[98, 10]⟩, .string ⟨#[]⟩, .string ⟨#[99]⟩, .string ⟨#[10]⟩, .string ⟨#[100, 100, 10]⟩] 36)).trans (hb1.mono (by simp))
    have hg' : w.heap.size ≤ g := by simp at hg; omega
    have HL : Hid (Line w1 g s.data.toList) := hline
    clear hline hb1 hg
    go_enter Ybad.func4, Ybad.ntmps4
    go_wp2
    go_ret
    exact ⟨g, c, rfl, HL.out, hg', hg2, hbw⟩

/-! ### numerals -/
theorem Own.fresh (w : World) (B : Nat) (hB : B ≤ w.heap.size) (b : UInt8) : Own (w.alloc (.cells #[.int .u8 (b.toNat : Int)] 5)) B (.slice (some ⟨w.heap.size, 0, none⟩) 1 1) [b] :=
  ⟨by simp [Lib.byteCells], .inr ⟨_, 1, _, rfl, hB, heap_alloc_new w _, by simp, by decide, rfl, by simp [Lib.byteCells]⟩⟩
theorem Own.reads {w : World} {B : Nat} {v : Value} {L : Bytes} (h : Own w B v L) : Reads w v L := by
  rcases h.2 with ⟨rfl, h0⟩ | ⟨g, cap, cur, rfl, r⟩
  · exact ⟨0, .inl ⟨List.eq_nil_of_length_eq_zero h0, rfl⟩⟩
  · refine ⟨cap, .inr ⟨g, 0, rfl, fun j u hj => ?_⟩⟩
    rw [← add_at]
    exact World.ownsRow.cells h rfl j u hj
theorem Reads.later {w w' : World} {v : Value} {L : Bytes} (h : Reads w v L) (hb : Below w.heap.size w w') : Reads w' v L := by
  obtain ⟨c, h | ⟨g, o, rfl, hc⟩⟩ := h
  · exact ⟨c, .inl h⟩
  · exact ⟨c, .inr ⟨g, o, rfl, fun j u hj => cell_later hb (hc j u hj)⟩⟩
theorem Step.below {w w' : World} {v v' : Value} (h : Step w v w' v') {B : Nat} (hB : B ≤ w.heap.size) (hv : ∀ k, v.ownBlock = some k → B ≤ k) : Below B w w' :=
  (Below.refl B w).grown h.1 hB hv
def dgt (n : Nat) : UInt8 := UInt8.ofNat (48 + n % 10)
theorem dgt_toNat (n : Nat) : ((dgt n).toNat : Int) = 48 + (n : Int) % 10 := by
  unfold dgt
  rw [UInt8.toNat_ofNat']
  omega
theorem dec_small {n : Nat} (h : n < 10) : Lib.decDigits n = [dgt n] := by
  rw [Lib.decDigits, dif_pos h]
  unfold dgt
  rw [Nat.mod_eq_of_lt h]
theorem dec_big {n : Nat} (h : ¬ n < 10) : Lib.decDigits n = Lib.decDigits (n / 10) ++ [dgt n] := by
  rw [Lib.decDigits, dif_neg h]
  rfl
theorem dec_length : ∀ (k n : Nat), n < 10 ^ (k + 1) → (Lib.decDigits n).length ≤ k + 1
  | 0, n, h => by rw [dec_small (by simpa using h)]; simp
  | k + 1, n, h => by
    by_cases hn : n < 10
    · rw [dec_small hn]; simp
    · rw [dec_big hn, List.length_append]
      have := dec_length k (n / 10) (by rw [Nat.pow_succ] at h; exact Nat.div_lt_of_lt_mul (by omega))
      simp
      omega
set_option maxHeartbeats 400000 in
set_option maxRecDepth 100000 in
theorem citoa_zero (w : World) : Calls Ybad.prog 9 #[.int .i64 0] w fun e w' => e = .returned (.slice (some ⟨w.heap.size, 0, none⟩) 1 1) ∧ w' = w.alloc (.cells #[.int .u8 48] 5 (1, 2)) := by
  have hcv := Go.Joins.run_convert_bytes_const_at (P := Ybad.prog) w 22 5 #[.int .u8 48] 1 1 w.heap.size rfl Ybad.underlying22 Ybad.underlying5
  go_enter Ybad.func9, Ybad.ntmps9
  go_wp2
  go_ret
  exact ⟨rfl, rfl⟩
set_option maxHeartbeats 400000 in
set_option maxRecDepth 100000 in
theorem citoa_pos (n : Nat) (w : World) (hn : 0 < n) (hn2 : n < 1000000) : Calls Ybad.prog 9 #[.int .i64 (n : Int)] w fun e w' => ∃ v, e = .returned v ∧ Own w' w.heap.size v (Lib.decDigits n) ∧ Below w.heap.size w w' := by
  have hdl := dec_length 5 n (by omega)
  have t0 : decide (n = 0) = false := decide_eq_false (by omega)
  have t1 : decide ((n : Int) ≤ 0) = false := decide_eq_false (by omega)
  go_enter Ybad.func9, Ybad.ntmps9
  go_wp2
  go_loopw [0, 3] (fun s0 s3 wr => ∃ (m : Nat) (D : Bytes), s0 = .int .i64 (m : Int) ∧ m ≤ n ∧ Own wr w.heap.size s3 D ∧ Below w.heap.size w wr ∧ ((m = 0 ∧ Lib.decDigits n = D) ∨ (0 < m ∧ Lib.decDigits n = Lib.decDigits m ++ D))) (fun s0 _ _ => (intOf s0).toNat)
  case atStart => exact ⟨n, [], rfl, Nat.le_refl _, World.ownsRow_nil _ _ _ _, Below.refl _ _, .inr ⟨hn, by simp⟩⟩
  case round =>
    obtain ⟨m, D, rfl, hm, hown, hbel, hD⟩ := hrel
    by_cases h0 : 0 < m
    · have hD : Lib.decDigits n = Lib.decDigits m ++ D := by
        rcases hD with h | h
        · omega
        · exact h.2
      have hDl : D.length ≤ 6 := by rw [hD, List.length_append] at hdl; omega
      have hfr := Own.fresh wr w.heap.size hbel.size (dgt m)
      rw [dgt_toNat] at hfr
      obtain ⟨v1, w1, hr1, ho1, hs1⟩ := app22 22 hfr (by simp; have := hbel.size; omega) ((Own.reads hown).later ((Below.refl _ _).alloc (Nat.le_refl _) _)) (by simp; omega)
      have hb1 : Below w.heap.size w w1 := (hbel.alloc hbel.size _).trans (hs1.below (by simp; have := hbel.size; omega) (fun k hk => by cases hk; exact hbel.size))
      have HO : Hid (Own w1 w.heap.size v1 ([dgt m] ++ D)) := ho1
      have HD : Hid (Lib.decDigits n = Lib.decDigits m ++ D) := hD
      clear ho1 hs1 hfr hown hD
      go_wp2_with (at_builtin; refine wpList_app rfl _ _ _ _ rfl hr1 rfl rfl ?_)
      go_roundw
      case rel =>
        refine ⟨m / 10, dgt m :: D, by go_num, by omega, HO.out, hb1, ?_⟩
        by_cases h9 : m < 10
        · exact .inl ⟨by omega, by rw [HD.out, dec_small h9]; rfl⟩
        · exact .inr ⟨by omega, by rw [HD.out, dec_big h9]; simp⟩
      case measure => simp [intOf]; omega
    · have h0 : m = 0 := by omega
      have hD2 : Lib.decDigits n = D := by
        rcases hD with h | h
        · exact h.2
        · omega
      subst h0
      go_wp2
      go_ret
      exact ⟨_, rfl, hown, hbel⟩

/-- what a range reads as -/
def rangeN (start count : Nat) : Bytes :=
  if count = 0 then Lib.decDigits start ++ [44, 48] else if count = 1 then Lib.decDigits (start + 1) else Lib.decDigits (start + 1) ++ [44] ++ Lib.decDigits count
theorem Reads.two (w : World) : Reads (w.alloc (.cells #[.int .u8 44, .int .u8 48] 5)) (.slice (some ⟨w.heap.size, 0, none⟩) 2 2) [44, 48] :=
  ⟨2, .inr ⟨_, 0, rfl, fun j u hj => by
    rw [Nat.zero_add, cell_of_row _ _ _ _ 5 _ (heap_alloc_new w _)]
    simpa [Lib.byteCells] using hj⟩⟩
/-- append to the literal "0" -/
theorem app_lit (w : World) : ∃ v' w', (Builtin.append_ #[22, 22] 22 #[.slice (some ⟨w.heap.size, 0, none⟩) 1 1, .slice (some ⟨w.heap.size + 1, 0, none⟩) 2 2]).run Ybad.prog ((w.alloc (.cells #[.int .u8 48] 5 (1, 2))).alloc (.cells #[.int .u8 44, .int .u8 48] 5)) = .ok v' w' ∧
    Own w' w.heap.size v' [48, 44, 48] ∧ Below w.heap.size w w' := by
  obtain ⟨i, hi, hz, hs, hby⟩ := info5
  obtain ⟨w1, hw1⟩ : ∃ w1, w1 = w.alloc (.cells #[.int .u8 48] 5 (1, 2)) := ⟨_, rfl⟩
  have hsz : w1.heap.size = w.heap.size + 1 := by rw [hw1]; simp
  have hr := run_append_grow (P := Ybad.prog) (w1.alloc (.cells #[.int .u8 44, .int .u8 48] 5)) 22 22 5 i (.int .u8 0) Ybad.underlying22 hi hz ⟨w.heap.size, 0, none⟩ 1 1 [.int .u8 48] (by rw [hs]; rfl)
    (fun j u hj => by
      rw [add_at]
      have : (w1.alloc (.cells #[.int .u8 44, .int .u8 48] 5)).heap[w.heap.size]? = some (.cells #[.int .u8 48] 5 (1, 2)) := by
        rw [Below.heap_alloc w1 _ _ (by omega), hw1]
        exact heap_alloc_new w _
      rw [Nat.zero_add, cell_of_row _ _ _ _ 5 _ this]
      simpa using hj)
    ⟨w.heap.size + 1, 0, none⟩ 2 2 [.int .u8 44, .int .u8 48] (by rw [hs]; rfl)
    (fun j u hj => by
      rw [add_at, ← hsz, Nat.zero_add, cell_of_row _ _ _ _ 5 _ (heap_alloc_new w1 _)]
      simpa using hj) (by decide) (by decide) (by rw [hby]; exact growslice_fits (by decide) (by decide))
  have hbw : Below w.heap.size w w1 := by rw [hw1]; exact (Below.refl _ _).alloc (Nat.le_refl _) _
  rw [← hw1]
  have hge := grownCap_ge (w1.alloc (.cells #[.int .u8 44, .int .u8 48] 5)) (1 + 2) 1 5
  have hcm := grownCap_le_maxLen (w1.alloc (.cells #[.int .u8 44, .int .u8 48] 5)) (1 + 2) 1 5 (by decide)
  refine ⟨_, _, hr, ⟨by simp [Lib.byteCells], .inr ⟨_, _, _, rfl, by simp; omega, heap_alloc_new (w1.alloc (.cells #[.int .u8 44, .int .u8 48] 5)).drew _, hge, hcm, ?_, ?_⟩⟩, ?_⟩
  · simp only [Array.size_append, List.size_toArray, size_zeroCells]
    show 1 + 2 + (_ - 3) * 1 = _
    omega
  · simp [Lib.byteCells]
  · exact ((hbw.alloc (by omega) _).drew).alloc (by simp; omega) _

theorem drop_own {w w' : World} {B B' : Nat} {v : Value} {L : Bytes} (h : Own w B v L) (hb : B' ≤ B) (e : w = w') : Own w' B' v L := by subst e; exact World.ownsRow.mono h hb
theorem Own.ge {w : World} {B : Nat} {v : Value} {L : Bytes} (h : Own w B v L) : ∀ k, v.ownBlock = some k → B ≤ k := fun k hk => (World.ownsRow.lt h k hk).1
theorem Own.kept {w w' : World} {B C : Nat} {v : Value} {L : Bytes} (h : Own w B v L) (hb : Below C w w') (hv : w.heap.size ≤ C) : Own w' B v L := by
  refine World.ownsRow.kept (row := none) h ⟨hb.os, hb.tape, hb.output, hb.size, fun k hk _ => hb.block k (by omega)⟩ ?_
  cases v.ownBlock <;> simp
set_option maxHeartbeats 400000 in
set_option maxRecDepth 100000 in
theorem crange_any (start count : Nat) (w : World) (hs : start < 900000) (hc : count < 900000) : Calls Ybad.prog 6 #[.int .i64 (start : Int), .int .i64 (count : Int)] w fun e w' => ∃ v, e = .returned v ∧ Own w' w.heap.size v (rangeN start count) ∧ Below w.heap.size w w' := by
  by_cases h0 : count = 0
  · subst h0
    by_cases h1 : start = 0
    · subst h1
      obtain ⟨v1, w1, hr1, ho1, hb1⟩ := app_lit w
      have HO : Hid (Own w1 w.heap.size v1 [48, 44, 48]) := ho1
      clear ho1
      go_enter Ybad.func6, Ybad.ntmps6
      go_wp2_with fail
      refine (citoa_zero _).mono ?_
      rintro e w' ⟨rfl, rfl⟩
      go_wp2_with (at_builtin; refine wpList_app rfl _ _ _ _ rfl hr1 rfl rfl ?_)
      go_ret
      refine ⟨v1, rfl, ?_, hb1⟩
      have e : rangeN 0 0 = [48, 44, 48] := by unfold rangeN; rw [if_pos rfl, dec_small (by decide)]; rfl
      rw [e]
      exact HO.out
    · go_enter Ybad.func6, Ybad.ntmps6
      go_wp2_with fail
      refine (citoa_pos start _ (by omega) (by omega)).mono ?_
      rintro e w1 ⟨v, rfl, ho, hb⟩
      have hdl := dec_length 5 start (by omega)
      obtain ⟨v1, w2, hr1, ho1, hs1⟩ := app22 22 (ho.alloc _) (by simp; have := hb.size; omega) (Reads.two w1) (by simp; omega)
      have hb2 : Below w.heap.size w w2 := (hb.alloc hb.size _).trans (hs1.below (by simp; have := hb.size; omega) ho.ge)
      have HO : Hid (Own w2 w.heap.size v1 (Lib.decDigits start ++ [44, 48])) := ho1
      clear ho1 hs1 ho
      go_wp2_with (at_builtin; refine wpList_app rfl _ _ _ _ rfl hr1 rfl rfl ?_)
      go_ret
      exact ⟨v1, rfl, HO.out, hb2⟩
  · have t0 : ((count : Int) == 0) = false := by simp; omega
    have hds := dec_length 5 (start + 1) (by omega)
    have hdc := dec_length 5 count (by omega)
    go_enter Ybad.func6, Ybad.ntmps6
    go_wp2_with fail
    refine (citoa_pos (start + 1) _ (by omega) (by omega)).mono ?_
    rintro e w1 ⟨v, rfl, ho, hb⟩
    by_cases h1 : count = 1
    · subst h1
      have HO : Hid (Own w1 w.heap.size v (Lib.decDigits (start + 1))) := ho
      clear ho
      go_wp2_with fail
      go_ret
      exact ⟨v, rfl, HO.out, hb⟩
    · have t1 : ((count : Int) == 1) = false := by simp; omega
      obtain ⟨v1, w2, hr1, ho1, hs1⟩ := app22 22 (ho.alloc (.cells #[.int .u8 44] 5)) (by simp; have := hb.size; omega) (Reads.one w1 44) (by simp; omega)
      have hb2 : Below w.heap.size w w2 := (hb.alloc hb.size _).trans (hs1.below (by simp; have := hb.size; omega) ho.ge)
      have HO : Hid (Own w2 w.heap.size v1 (Lib.decDigits (start + 1) ++ [44])) := ho1
      clear ho1 hs1 ho
      go_wp2_with (first | (at_builtin; refine wpList_app rfl _ _ _ _ rfl hr1 rfl rfl ?_) | fail)
      refine (citoa_pos count _ (by omega) (by omega)).mono ?_
      rintro e w3 ⟨vc, rfl, hoc, hbc⟩
      have ho3 := HO.out.kept hbc (Nat.le_refl _)
      have hb3 := hb2.trans (hbc.mono hb2.size)
      obtain ⟨v2, w4, hr2, ho4, hs4⟩ := app22 22 ho3 hb3.size hoc.reads (by simp; omega)
      have hb4 : Below w.heap.size w w4 := hb3.trans (hs4.below hb3.size ho3.ge)
      have HO4 : Hid (Own w4 w.heap.size v2 (Lib.decDigits (start + 1) ++ [44] ++ Lib.decDigits count)) := ho4
      clear ho4 hs4 ho3 hoc
      go_wp2_with (first | (at_builtin; refine wpList_app rfl _ _ _ _ rfl hr2 rfl rfl ?_) | fail)
      go_ret
      refine ⟨v2, rfl, ?_, hb4⟩
      have e : rangeN start count = Lib.decDigits (start + 1) ++ [44] ++ Lib.decDigits count := by unfold rangeN; rw [if_neg h0, if_neg h1]
      rw [e]
      exact HO4.out
end Go.Proofs.YbulkbtkaDoor
