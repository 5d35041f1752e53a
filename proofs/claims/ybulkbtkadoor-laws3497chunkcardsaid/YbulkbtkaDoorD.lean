import Derived.Test.YbulkbtkaDoorC
namespace Go.Proofs.YbulkbtkaDoor
open Go.RowKit
abbrev Tab (B : Nat) (w : World) : Prop := Lib.TabBelow Ybad.prog B w "internal/strconv.uint64pow10" .u64 Lib.pow10Tab
theorem itoa_nat (n : Nat) : Lib.itoa (n : Int) = Lib.decDigits n := by
  unfold Lib.itoa
  rw [if_neg (by omega)]
  simp
theorem appInt (B : Nat) (L : Bytes) (n : Nat) (v : Value) (w : World) (h : Own w B v L) (hB : B ≤ w.heap.size) (ht : Tab B w) (hn : n < 1000000) (hl : L.length ≤ 900000) :
    Calls Ybad.prog 12 #[v, .int .i64 (n : Int), .int .i64 10] w fun e w' => ∃ v', e = .returned v' ∧ Own w' B v' (L ++ Lib.decDigits n) ∧ Below B w w' := by
  refine (Ybad.strconv_AppendInt_10 B L.length (n : Int) (by omega) (by omega) v _ w h hB (by omega) ht).mono ?_
  rintro e w' ⟨v', rfl, ho, hb, _⟩
  refine ⟨v', rfl, ?_, hb⟩
  unfold Own
  rw [List.length_append, Lib.byteCells_append, ← itoa_nat]
  exact ho
set_option maxHeartbeats 400000 in
set_option maxRecDepth 100000 in
theorem appendRange_any (B : Nat) (L : Bytes) (start count : Nat) (v : Value) (w : World) (h : Own w B v L) (hB : B ≤ w.heap.size) (ht : Tab B w) (hs : start < 900000) (hc : count < 900000) (hl : L.length ≤ 800000) :
    Calls Ybad.prog 10 #[v, .int .i64 (start : Int), .int .i64 (count : Int)] w fun e w' => ∃ v', e = .returned v' ∧ Own w' B v' (L ++ rangeN start count) ∧ Below B w w' := by
  have hds0 := dec_length 5 start (by omega)
  have hds := dec_length 5 (start + 1) (by omega)
  have hdc := dec_length 5 count (by omega)
  have HT : Hid (Tab B w) := ht
  have H : Hid (Own w B v L) := h
  clear h ht
  by_cases h0 : count = 0
  · subst h0
    go_enter Ybad.func10, Ybad.ntmps10
    go_wp2_with fail
    refine (appInt B L start v _ H.out hB HT.out (by omega) (by omega)).mono ?_
    rintro e w1 ⟨v1, rfl, ho1, hb1⟩
    obtain ⟨v2, w2, hr2, ho2, hs2⟩ := app9 22 ho1 (Nat.le_trans hB hb1.size) ⟨#[44, 48]⟩ (by simp; show _ + 2 ≤ _; omega)
    have hb2 : Below B w w2 := hb1.trans (hs2.below (Nat.le_trans hB hb1.size) ho1.ge)
    have HO : Hid (Own w2 B v2 (L ++ Lib.decDigits start ++ [44, 48])) := ho2
    clear ho1 ho2 hs2
    go_wp2_with (at_builtin; refine wpList_app rfl _ _ _ _ rfl hr2 rfl rfl ?_)
    go_ret
    refine ⟨v2, rfl, ?_, hb2⟩
    have e : L ++ rangeN start 0 = L ++ Lib.decDigits start ++ [44, 48] := by unfold rangeN; rw [if_pos rfl]; simp
    rw [e]
    exact HO.out
  · have t0 : ((count : Int) == 0) = false := by simp; omega
    go_enter Ybad.func10, Ybad.ntmps10
    go_wp2_with fail
    refine (appInt B L (start + 1) v _ H.out hB HT.out (by omega) (by omega)).mono ?_
    rintro e w1 ⟨v1, rfl, ho1, hb1⟩
    by_cases h1 : count = 1
    · subst h1
      have HO : Hid (Own w1 B v1 (L ++ Lib.decDigits (start + 1))) := ho1
      clear ho1
      go_wp2_with fail
      go_ret
      exact ⟨v1, rfl, HO.out, hb1⟩
    · have t1 : ((count : Int) == 1) = false := by simp; omega
      have hB1 := Nat.le_trans hB hb1.size
      obtain ⟨v2, w2, hr2, ho2, hs2⟩ := app22 22 (ho1.alloc (.cells #[.int .u8 44] 5)) (by simp; omega) (Reads.one w1 44) (by simp; omega)
      have hb2 : Below B w w2 := (hb1.alloc hB1 _).trans (hs2.below (by simp; omega) ho1.ge)
      have HO : Hid (Own w2 B v2 (L ++ Lib.decDigits (start + 1) ++ [44])) := ho2
      clear ho1 ho2 hs2
      go_wp2_with (first | (at_builtin; refine wpList_app rfl _ _ _ _ rfl hr2 rfl rfl ?_) | fail)
      refine (appInt B _ count v2 _ HO.out (Nat.le_trans hB hb2.size) (HT.out.on hb2) (by omega) (by simp; omega)).mono ?_
      rintro e w3 ⟨v3, rfl, ho3, hb3⟩
      have HO3 : Hid (Own w3 B v3 (L ++ Lib.decDigits (start + 1) ++ [44] ++ Lib.decDigits count)) := ho3
      clear ho3
      go_wp2_with fail
      go_ret
      refine ⟨v3, rfl, ?_, hb2.trans hb3⟩
      have e : L ++ rangeN start count = L ++ Lib.decDigits (start + 1) ++ [44] ++ Lib.decDigits count := by unfold rangeN; rw [if_neg h0, if_neg h1]; simp
      rw [e]
      exact HO3.out
end Go.Proofs.YbulkbtkaDoor
