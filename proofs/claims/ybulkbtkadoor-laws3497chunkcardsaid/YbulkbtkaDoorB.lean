import Derived.Test.YbulkbtkaDoorA
namespace Go.Proofs.YbulkbtkaDoor
open Go.RowKit

def noNew : Bytes := [92, 32, 78, 111, 32, 110, 101, 119, 108, 105, 110, 101, 32, 97, 116, 32, 101, 110, 100, 32, 111, 102, 32, 102, 105, 108, 101, 10]
/-- what a line adds -/
def lineN (p : UInt8) (M : Bytes) : Bytes := p :: M ++ (if M.getLast? = some 10 then [] else 10 :: noNew)
theorem lineN_nil (p : UInt8) : lineN p [] = [p] ++ [] ++ ([10] ++ noNew) := rfl
theorem lineN_nl (p : UInt8) (M : Bytes) : lineN p (M ++ [10]) = [p] ++ (M ++ [10]) := by simp [lineN]
theorem lineN_no (p : UInt8) (M : Bytes) {b : UInt8} (h : b ≠ 10) : lineN p (M ++ [b]) = [p] ++ (M ++ [b]) ++ ([10] ++ noNew) := by simp [lineN, h]
theorem lineN_length (p : UInt8) (M : Bytes) : (lineN p M).length ≤ M.length + 30 := by
  unfold lineN
  split <;> simp [noNew]
/-- a line's value -/
def Line (w : World) (g : Nat) (M : Bytes) : Prop := ∀ j u, (Lib.byteCells M)[j]? = some u → w.cell? ⟨g, j, none⟩ = some u
theorem Line.reads {w : World} {g c : Nat} {M : Bytes} (h : Line w g M) : Reads w (.slice (some ⟨g, 0, none⟩) M.length c) M :=
  ⟨c, .inr ⟨g, 0, rfl, fun j u hj => by rw [Nat.zero_add]; exact h j u hj⟩⟩
theorem Line.step {w w' : World} {v v' : Value} {g : Nat} {M : Bytes} (h : Line w g M) (hs : Step w v w' v') (hne : some g ≠ v.ownBlock) : Line w' g M :=
  fun j u hj => hs.cell hne (h j u hj)
theorem Reads.one (w : World) (b : UInt8) : Reads (w.alloc (.cells #[.int .u8 (b.toNat : Int)] 5)) (.slice (some ⟨w.heap.size, 0, none⟩) 1 1) [b] :=
  ⟨1, .inr ⟨_, 0, rfl, fun j u hj => by
    match j with
    | 0 =>
      simp [Lib.byteCells] at hj
      subst hj
      simp [go_sem]
    | m + 1 => simp [Lib.byteCells] at hj⟩⟩
theorem Reads.ten (w : World) : Reads (w.alloc (.cells #[.int .u8 10] 5)) (.slice (some ⟨w.heap.size, 0, none⟩) 1 1) [10] := Reads.one w 10
theorem idx22 {g len cap k : Nat} (hk : k < len) (w : World) :
    (Instr.indexAt 22 (.slice (some ⟨g, 0, none⟩) len cap) (.int .i64 (k : Int))).run Ybad.prog w = .ok (.pointer (some ⟨g, k, none⟩)) w := by
  have hs : (sizeOf 5).run Ybad.prog w = .ok 1 w := by kernel_rfl
  rw [run_indexAt_slice _ _ _ _ _ _ _ Ybad.underlying22]
  rw [if_pos (by omega)]
  show ((sizeOf 5).run Ybad.prog w).andThen _ = _
  rw [hs]
  simp [Result.andThen, Addr.add]
  omega

def noNewStr : ByteArray := ⟨#[92, 32, 78, 111, 32, 110, 101, 119, 108, 105, 110, 101, 32, 97, 116, 32, 101, 110, 100, 32, 111, 102, 32, 102, 105, 108, 101, 10]⟩
theorem noNewStr_size : noNewStr.size = 28 := rfl
set_option maxHeartbeats 400000 in
set_option maxRecDepth 100000 in
theorem appendLine_any (B g c : Nat) (v : Value) (L M : Bytes) (p : UInt8) (w : World) (h : Own w B v L) (hB : B ≤ w.heap.size) (hm : Line w g M) (hne : some g ≠ v.ownBlock) (hl : L.length + M.length ≤ 900000) :
    Calls Ybad.prog 11 #[v, .int .u8 (p.toNat : Int), .slice (some ⟨g, 0, none⟩) M.length c] w fun e w' => ∃ v', e = .returned v' ∧ Own w' B v' (L ++ lineN p M) ∧ Step w v w' v' := by
  obtain ⟨v1, w1, hr1, ho1, hs1⟩ := app22 22 (h.alloc (.cells #[.int .u8 (p.toNat : Int)] 5)) (by simp; omega) (Reads.one w p) (by simp; omega)
  have hs1 : Step w v w1 v1 := ((Step.refl w v).alloc _).trans hs1
  have hm1 := hm.step hs1 hne
  have hB1 : B ≤ w1.heap.size := Nat.le_trans hB hs1.1.size
  obtain ⟨v2, w2, hr2, ho2, hs2⟩ := app22 22 ho1 hB1 (Line.reads (c := c) hm1) (by simp; omega)
  have hs2 := hs1.trans hs2
  have hm2 := hm.step hs2 hne
  have hB2 : B ≤ w2.heap.size := Nat.le_trans hB hs2.1.size
  obtain ⟨v3, w3, hr3, ho3, hs3⟩ := app22 22 (ho2.alloc (.cells #[.int .u8 10] 5)) (by simp; omega) (Reads.ten w2) (by simp; omega)
  have hs3 := (hs2.alloc (.cells #[.int .u8 10] 5)).trans hs3
  have hB3 : B ≤ w3.heap.size := Nat.le_trans hB hs3.1.size
  obtain ⟨v4, w4, hr4, ho4, hs4⟩ := app9 22 ho3 hB3 noNewStr (by rw [noNewStr_size]; simp; omega)
  have hs4 := hs3.trans hs4
  unfold noNewStr at hr4
  have HO2 : Hid (Own w2 B v2 (L ++ [p] ++ M)) := ho2
  have HO4 : Hid (Own w4 B v4 (L ++ [p] ++ M ++ [10] ++ noNew)) := ho4
  have HS2 : Hid (Step w v w2 v2) := hs2
  have HS4 : Hid (Step w v w4 v4) := hs4
  have HM2 : Hid (Line w2 g M) := hm2
  clear h hm ho1 ho2 ho3 ho4 hm1 hm2 hne
  clear hs4
  clear hs3
  clear hs2
  clear hs1
  rcases List.eq_nil_or_concat M with rfl | ⟨M', b, rfl⟩
  · go_enter Ybad.func11, Ybad.ntmps11
    go_wp2_with (at_builtin; first | refine wpList_app rfl _ _ _ _ rfl hr1 rfl rfl ?_ | refine wpList_app rfl _ _ _ _ rfl hr2 rfl rfl ?_ | refine wpList_app rfl _ _ _ _ rfl hr3 rfl rfl ?_ | refine wpList_app rfl _ _ _ _ rfl hr4 rfl rfl ?_)
    go_ret
    refine ⟨v4, rfl, ?_, HS4.out⟩
    have := HO4.out
    simpa [lineN_nil] using this
  · have hlen : (M'.concat b).length = M'.length + 1 := by simp
    have hi := fun wz => idx22 (g := g) (cap := c) (k := M'.length) (len := M'.length + 1) (by omega) wz
    have hcb : w2.cell? ⟨g, M'.length, none⟩ = some (.int .u8 (b.toNat : Int)) := HM2.out _ _ (by simp [Lib.byteCells])
    rw [hlen] at hr2 hl ⊢
    clear hlen
    have ho2' : Own w2 B v2 (L ++ ([p] ++ (M' ++ [b]))) := by have := HO2.out; simpa using this
    have HO2' : Hid (Own w2 B v2 (L ++ ([p] ++ (M' ++ [b])))) := ho2'
    have ho4' : Own w4 B v4 (L ++ ([p] ++ (M' ++ [b]) ++ ([10] ++ noNew))) := by have := HO4.out; simpa using this
    have HO4' : Hid (Own w4 B v4 (L ++ ([p] ++ (M' ++ [b]) ++ ([10] ++ noNew)))) := ho4'
    clear ho2' ho4'
    rw [List.concat_eq_append]
    clear HO2 HO4 HM2
    by_cases hb : b = 10
    · rw [hb] at hcb
      subst hb
      rw [lineN_nl]
      go_enter Ybad.func11, Ybad.ntmps11
      go_wp2_with (at_builtin; first | refine wpList_app rfl _ _ _ _ rfl hr1 rfl rfl ?_ | refine wpList_app rfl _ _ _ _ rfl hr2 rfl rfl ?_ | refine wpList_app rfl _ _ _ _ rfl hr3 rfl rfl ?_ | refine wpList_app rfl _ _ _ _ rfl hr4 rfl rfl ?_)
      go_ret
      exact ⟨v2, rfl, HO2'.out, HS2.out⟩
    · have t1 : ((b.toNat : Int) != 10) = true := by
        simp only [bne_iff_ne]
        intro e
        exact hb (UInt8.toNat_inj.1 (by have h10 : (10 : UInt8).toNat = 10 := rfl; omega))
      rw [lineN_no p M' hb]
      go_enter Ybad.func11, Ybad.ntmps11
      go_wp2_with (at_builtin; first | refine wpList_app rfl _ _ _ _ rfl hr1 rfl rfl ?_ | refine wpList_app rfl _ _ _ _ rfl hr2 rfl rfl ?_ | refine wpList_app rfl _ _ _ _ rfl hr3 rfl rfl ?_ | refine wpList_app rfl _ _ _ _ rfl hr4 rfl rfl ?_)
      go_ret
      exact ⟨v4, rfl, HO4'.out, HS4.out⟩

def nlNewStr : ByteArray := ⟨#[10, 92, 32, 78, 111, 32, 110, 101, 119, 108, 105, 110, 101, 32, 97, 116, 32, 101, 110, 100, 32, 111, 102, 32, 102, 105, 108, 101, 10]⟩
theorem nlNewStr_size : nlNewStr.size = 29 := rfl
set_option maxHeartbeats 400000 in
set_option maxRecDepth 100000 in
theorem cline_any (B g c : Nat) (v : Value) (L M : Bytes) (p : UInt8) (w : World) (h : Own w B v L) (hB : B ≤ w.heap.size) (hm : Line w g M) (hne : some g ≠ v.ownBlock) (hl : L.length + M.length ≤ 900000) :
    Calls Ybad.prog 5 #[v, .int .u8 (p.toNat : Int), .slice (some ⟨g, 0, none⟩) M.length c] w fun e w' => ∃ v', e = .returned v' ∧ Own w' B v' (L ++ lineN p M) ∧ Step w v w' v' := by
  obtain ⟨v1, w1, hr1, ho1, hs1⟩ := app22 22 (h.alloc (.cells #[.int .u8 (p.toNat : Int)] 5)) (by simp; omega) (Reads.one w p) (by simp; omega)
  have hs1 : Step w v w1 v1 := ((Step.refl w v).alloc _).trans hs1
  have hm1 := hm.step hs1 hne
  have hB1 : B ≤ w1.heap.size := Nat.le_trans hB hs1.1.size
  obtain ⟨v2, w2, hr2, ho2, hs2⟩ := app22 22 ho1 hB1 (Line.reads (c := c) hm1) (by simp; omega)
  have hs2 := hs1.trans hs2
  have hm2 := hm.step hs2 hne
  have hB2 : B ≤ w2.heap.size := Nat.le_trans hB hs2.1.size
  obtain ⟨v4, w4, hr4, ho4, hs4⟩ := app9 22 ho2 hB2 nlNewStr (by rw [nlNewStr_size]; simp; omega)
  have hs4 := hs2.trans hs4
  unfold nlNewStr at hr4
  have HO2 : Hid (Own w2 B v2 (L ++ [p] ++ M)) := ho2
  have HO4 : Hid (Own w4 B v4 (L ++ [p] ++ M ++ (10 :: noNew))) := ho4
  have HS2 : Hid (Step w v w2 v2) := hs2
  have HS4 : Hid (Step w v w4 v4) := hs4
  have HM2 : Hid (Line w2 g M) := hm2
  clear h hm ho1 ho2 ho4 hm1 hm2 hne
  clear hs4
  clear hs2
  clear hs1
  rcases List.eq_nil_or_concat M with rfl | ⟨M', b, rfl⟩
  · go_enter Ybad.func5, Ybad.ntmps5
    go_wp2_with (at_builtin; first | refine wpList_app rfl _ _ _ _ rfl hr1 rfl rfl ?_ | refine wpList_app rfl _ _ _ _ rfl hr2 rfl rfl ?_ | refine wpList_app rfl _ _ _ _ rfl hr4 rfl rfl ?_)
    go_ret
    refine ⟨v4, rfl, ?_, HS4.out⟩
    have := HO4.out
    simpa [lineN_nil] using this
  · have hlen : (M'.concat b).length = M'.length + 1 := by simp
    have hi := fun wz => idx22 (g := g) (cap := c) (k := M'.length) (len := M'.length + 1) (by omega) wz
    have hcb : w2.cell? ⟨g, M'.length, none⟩ = some (.int .u8 (b.toNat : Int)) := HM2.out _ _ (by simp [Lib.byteCells])
    rw [hlen] at hr2 hl ⊢
    clear hlen
    have ho2' : Own w2 B v2 (L ++ ([p] ++ (M' ++ [b]))) := by have := HO2.out; simpa using this
    have HO2' : Hid (Own w2 B v2 (L ++ ([p] ++ (M' ++ [b])))) := ho2'
    have ho4' : Own w4 B v4 (L ++ ([p] ++ (M' ++ [b]) ++ ([10] ++ noNew))) := by have := HO4.out; simpa using this
    have HO4' : Hid (Own w4 B v4 (L ++ ([p] ++ (M' ++ [b]) ++ ([10] ++ noNew)))) := ho4'
    clear ho2' ho4'
    rw [List.concat_eq_append]
    clear HO2 HO4 HM2
    by_cases hb : b = 10
    · rw [hb] at hcb
      subst hb
      rw [lineN_nl]
      go_enter Ybad.func5, Ybad.ntmps5
      go_wp2_with (at_builtin; first | refine wpList_app rfl _ _ _ _ rfl hr1 rfl rfl ?_ | refine wpList_app rfl _ _ _ _ rfl hr2 rfl rfl ?_ | refine wpList_app rfl _ _ _ _ rfl hr4 rfl rfl ?_)
      go_ret
      exact ⟨v2, rfl, HO2'.out, HS2.out⟩
    · have t1 : ((b.toNat : Int) != 10) = true := by
        simp only [bne_iff_ne]
        intro e
        exact hb (UInt8.toNat_inj.1 (by have h10 : (10 : UInt8).toNat = 10 := rfl; omega))
      rw [lineN_no p M' hb]
      go_enter Ybad.func5, Ybad.ntmps5
      go_wp2_with (at_builtin; first | refine wpList_app rfl _ _ _ _ rfl hr1 rfl rfl ?_ | refine wpList_app rfl _ _ _ _ rfl hr2 rfl rfl ?_ | refine wpList_app rfl _ _ _ _ rfl hr4 rfl rfl ?_)
      go_ret
      exact ⟨v4, rfl, HO4'.out, HS4.out⟩
end Go.Proofs.YbulkbtkaDoor
