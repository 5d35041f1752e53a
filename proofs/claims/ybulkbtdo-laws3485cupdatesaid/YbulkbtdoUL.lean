/-
  newLeastTree: its five makes come up in any order: a lemma a subset of them (by program: mkCL.py).
-/
import Derived.Test.YbulkbtdoUK
import Derived.Deep.OwnRows
namespace Go.Proofs.Ybulkbtdo.U
open Go.RowKit
set_option maxRecDepth 100000
theorem made_row {t e : TypeId} {z : Value} {bytes : Nat} (ht : Yba.prog.underlying t = some (.slice e)) (hinfo : (Yba.prog.info? e).map (fun i => (i.zero, i.size, i.bytes)) = some (some z, 1, bytes)) (hz1 : z.cells = #[z]) (n : Nat) (hb : bytes ≤ 1000) (hn : n ≤ 10000) :
    ∃ o : Obj, (∀ w, (Instr.makeSlice t (.int .i64 (n : Int)) (.int .i64 (n : Int))).run Yba.prog w = .ok (.slice (some ⟨w.heap.size, 0, none⟩) n n) (w.alloc o)) ∧ ∀ w, RowIs (World.alloc w o) w.heap.size e n (fun _ => z) := by
  have hbn : bytes * n ≤ 1000 * 10000 := Nat.mul_le_mul hb hn
  refine ⟨.cells (madeCells #[z] n) e, fun w => run_make_row' t e z bytes ht hinfo hz1 .i64 .i64 n (by omega) (by omega) w, fun w => ?_⟩
  have h := RowIs.made w (madeCells #[z] n) e
  have hs : (madeCells #[z] n).size = n := by rw [size_madeCells]
  rw [hs] at h
  refine h.ext fun i hi => ?_
  have hg : (madeCells #[z] n)[i]? = some z := by
    unfold madeCells
    simp [hi, Nat.mod_one]
  rw [hg]
  rfl
theorem step_make {ops : Array Oper} {o : Oper} {a : Act} {w : World} {K : Act → World → Prop} {Q : Exit → Act → World → Prop} {E : Prop}
    (hg : o.guard = none) (l c : Operand) (t : TypeId) (hop : o.op = Op.makeSlice t l c) {n : Int} (hl : a.eval l = .int .i64 n) (hc : a.eval c = .int .i64 n) {v : Value} {w' : World}
    (hr : (Instr.makeSlice t (.int .i64 n) (.int .i64 n)).run Yba.prog w = .ok v w') (hK : K (a.put o.dst v) w') :
    if Region.wanted o (yielded ops a.tmps) = true then Oper.wp Yba.prog o a w K Q else E := by
  have hw : Region.wanted o (yielded ops a.tmps) = true := by simp [Region.wanted, hg]
  rw [if_pos hw]
  unfold Oper.wp execOp
  simp only [hop, hl, hc, Sem.run_bind, Sem.run_pure, hr, Result.andThen_ok]
  exact hK
/-- the slots, the five makes' results left open -/
def A13 (t0 t4 v9 v13 v16 v20 v23 : Value) (m : Nat) : Act :=
  { tmps := #[t0, .int .i64 ((m : Int) + 1), undef, undef, t4, .int .i64 ((m : Int) + 1), t0, .int .i64 ((m : Int) + 1), .int .i64 (m : Int), v9, .int .i64 ((m : Int) + 1), .int .i64 (m : Int), .int .i64 ((m * 8 : Nat) : Int), v13, .int .i64 ((m : Int) + 1), .int .i64 (m : Int), v16, .int .i64 ((m : Int) + 1), .int .i64 (m : Int), .int .i64 ((m * 16 : Nat) : Int), v20, .int .i64 ((m : Int) + 1), .int .i64 (m : Int), v23, undef], defers := [] }
/-- a slice of a new row -/
def NewRow (w : World) (b : Nat) (e : TypeId) (n : Nat) (z : Value) (v : Value) (g : Nat) : Prop := v = .slice (some ⟨g, 0, none⟩) n n ∧ b ≤ g ∧ RowIs w g e n (fun _ => z)
theorem NewRow.alloc {w : World} {b : Nat} {e : TypeId} {n : Nat} {z v : Value} {g : Nat} (h : NewRow w b e n z v g) (o : Obj) : NewRow (w.alloc o) b e n z v g := ⟨h.1, h.2.1, h.2.2.chg ((Chg.refl (fun _ => False) w).alloc o) (fun h => h)⟩
theorem NewRow.lt {w : World} {b : Nat} {e : TypeId} {n : Nat} {z v : Value} {g : Nat} (h : NewRow w b e n z v g) : g < w.heap.size := h.2.2.lt
set_option maxHeartbeats 4000000 in
theorem five13 {ops : Array Oper} {Q : Exit → Act → World → Prop} {t0 t4 : Value} {m : Nat} {wb : World} (hm : m ≤ 256)
    {o4 : Oper} (e4 : ops[4]? = some o4) (g4 : o4.guard = none) (d4 : o4.dst = some 9) (p4 : o4.op = Op.makeSlice 46 (.tmp 8) (.tmp 8))
    {o8 : Oper} (e8 : ops[8]? = some o8) (g8 : o8.guard = none) (d8 : o8.dst = some 13) (p8 : o8.op = Op.makeSlice 45 (.tmp 12) (.tmp 12))
    {o11 : Oper} (e11 : ops[11]? = some o11) (g11 : o11.guard = none) (d11 : o11.dst = some 16) (p11 : o11.op = Op.makeSlice 47 (.tmp 15) (.tmp 15))
    {o15 : Oper} (e15 : ops[15]? = some o15) (g15 : o15.guard = none) (d15 : o15.dst = some 20) (p15 : o15.op = Op.makeSlice 45 (.tmp 19) (.tmp 19))
    {o18 : Oper} (e18 : ops[18]? = some o18) (g18 : o18.guard = none) (d18 : o18.dst = some 23) (p18 : o18.op = Op.makeSlice 47 (.tmp 22) (.tmp 22))
    (rN : Region.ready .any ops #[true, true, true, true, false, true, true, true, false, true, true, false, true, true, true, false, true, true, false, false, false] = [4, 8, 11, 15, 18])
    (rL : Region.ready .any ops #[true, true, true, true, true, true, true, true, false, true, true, false, true, true, true, false, true, true, false, false, false] = [8, 11, 15, 18])
    (rW : Region.ready .any ops #[true, true, true, true, false, true, true, true, true, true, true, false, true, true, true, false, true, true, false, false, false] = [4, 11, 15, 18])
    (rO : Region.ready .any ops #[true, true, true, true, false, true, true, true, false, true, true, true, true, true, true, false, true, true, false, false, false] = [4, 8, 15, 18])
    (rA : Region.ready .any ops #[true, true, true, true, false, true, true, true, false, true, true, false, true, true, true, true, true, true, false, false, false] = [4, 8, 11, 18])
    (rB : Region.ready .any ops #[true, true, true, true, false, true, true, true, false, true, true, false, true, true, true, false, true, true, true, false, false] = [4, 8, 11, 15])
    (rLW : Region.ready .any ops #[true, true, true, true, true, true, true, true, true, true, true, false, true, true, true, false, true, true, false, false, false] = [11, 15, 18])
    (rLO : Region.ready .any ops #[true, true, true, true, true, true, true, true, false, true, true, true, true, true, true, false, true, true, false, false, false] = [8, 15, 18])
    (rLA : Region.ready .any ops #[true, true, true, true, true, true, true, true, false, true, true, false, true, true, true, true, true, true, false, false, false] = [8, 11, 18])
    (rLB : Region.ready .any ops #[true, true, true, true, true, true, true, true, false, true, true, false, true, true, true, false, true, true, true, false, false] = [8, 11, 15])
    (rWO : Region.ready .any ops #[true, true, true, true, false, true, true, true, true, true, true, true, true, true, true, false, true, true, false, false, false] = [4, 15, 18])
    (rWA : Region.ready .any ops #[true, true, true, true, false, true, true, true, true, true, true, false, true, true, true, true, true, true, false, false, false] = [4, 11, 18])
    (rWB : Region.ready .any ops #[true, true, true, true, false, true, true, true, true, true, true, false, true, true, true, false, true, true, true, false, false] = [4, 11, 15])
    (rOA : Region.ready .any ops #[true, true, true, true, false, true, true, true, false, true, true, true, true, true, true, true, true, true, false, false, false] = [4, 8, 18])
    (rOB : Region.ready .any ops #[true, true, true, true, false, true, true, true, false, true, true, true, true, true, true, false, true, true, true, false, false] = [4, 8, 15])
    (rAB : Region.ready .any ops #[true, true, true, true, false, true, true, true, false, true, true, false, true, true, true, true, true, true, true, false, false] = [4, 8, 11])
    (rLWO : Region.ready .any ops #[true, true, true, true, true, true, true, true, true, true, true, true, true, true, true, false, true, true, false, false, false] = [15, 18])
    (rLWA : Region.ready .any ops #[true, true, true, true, true, true, true, true, true, true, true, false, true, true, true, true, true, true, false, false, false] = [11, 18])
    (rLWB : Region.ready .any ops #[true, true, true, true, true, true, true, true, true, true, true, false, true, true, true, false, true, true, true, false, false] = [11, 15])
    (rLOA : Region.ready .any ops #[true, true, true, true, true, true, true, true, false, true, true, true, true, true, true, true, true, true, false, false, false] = [8, 18])
    (rLOB : Region.ready .any ops #[true, true, true, true, true, true, true, true, false, true, true, true, true, true, true, false, true, true, true, false, false] = [8, 15])
    (rLAB : Region.ready .any ops #[true, true, true, true, true, true, true, true, false, true, true, false, true, true, true, true, true, true, true, false, false] = [8, 11])
    (rWOA : Region.ready .any ops #[true, true, true, true, false, true, true, true, true, true, true, true, true, true, true, true, true, true, false, false, false] = [4, 18])
    (rWOB : Region.ready .any ops #[true, true, true, true, false, true, true, true, true, true, true, true, true, true, true, false, true, true, true, false, false] = [4, 15])
    (rWAB : Region.ready .any ops #[true, true, true, true, false, true, true, true, true, true, true, false, true, true, true, true, true, true, true, false, false] = [4, 11])
    (rOAB : Region.ready .any ops #[true, true, true, true, false, true, true, true, false, true, true, true, true, true, true, true, true, true, true, false, false] = [4, 8])
    (rLWOA : Region.ready .any ops #[true, true, true, true, true, true, true, true, true, true, true, true, true, true, true, true, true, true, false, false, false] = [18])
    (rLWOB : Region.ready .any ops #[true, true, true, true, true, true, true, true, true, true, true, true, true, true, true, false, true, true, true, false, false] = [15])
    (rLWAB : Region.ready .any ops #[true, true, true, true, true, true, true, true, true, true, true, false, true, true, true, true, true, true, true, false, false] = [11])
    (rLOAB : Region.ready .any ops #[true, true, true, true, true, true, true, true, false, true, true, true, true, true, true, true, true, true, true, false, false] = [8])
    (rWOAB : Region.ready .any ops #[true, true, true, true, false, true, true, true, true, true, true, true, true, true, true, true, true, true, true, false, false] = [4])
    (fin : ∀ (vL vW vO vA vB : Value) (gL gW gO gA gB : Nat) (wx : World), New wb wx → NewRow wx wb.heap.size 49 m (.slice none 0 0) vL gL → NewRow wx wb.heap.size 21 (m * 8) (.int .i32 0) vW gW → NewRow wx wb.heap.size 5 m (.int .u8 0) vO gO → NewRow wx wb.heap.size 21 (m * 16) (.int .i32 0) vA gA → NewRow wx wb.heap.size 5 m (.int .u8 0) vB gB → gL ≠ gW → gL ≠ gO → gL ≠ gA → gL ≠ gB → gW ≠ gO → gW ≠ gA → gW ≠ gB → gO ≠ gA → gO ≠ gB → gA ≠ gB → wpAny Yba.prog .any ops Q 2 #[true, true, true, true, true, true, true, true, true, true, true, true, true, true, true, true, true, true, true, false, false] (A13 t0 t4 vL vW vO vA vB m) wx) :
    wpAny Yba.prog .any ops Q 7 #[true, true, true, true, false, true, true, true, false, true, true, false, true, true, true, false, true, true, false, false, false] (A13 t0 t4 undef undef undef undef undef m) wb := by
  obtain ⟨oL, hL, wL⟩ := made_row Yba.underlying46 (show (Yba.prog.info? 49).map (fun i => (i.zero, i.size, i.bytes)) = some (some (.slice none 0 0), 1, 24) by kernel_rfl) rfl m (by decide) (by omega)
  obtain ⟨oW, hW, wW⟩ := made_row Yba.underlying45 (show (Yba.prog.info? 21).map (fun i => (i.zero, i.size, i.bytes)) = some (some (.int .i32 0), 1, 4) by kernel_rfl) rfl (m * 8) (by decide) (by omega)
  obtain ⟨oO, hO, wO⟩ := made_row Yba.underlying47 (show (Yba.prog.info? 5).map (fun i => (i.zero, i.size, i.bytes)) = some (some (.int .u8 0), 1, 1) by kernel_rfl) rfl m (by decide) (by omega)
  obtain ⟨oA, hA, wA⟩ := made_row Yba.underlying45 (show (Yba.prog.info? 21).map (fun i => (i.zero, i.size, i.bytes)) = some (some (.int .i32 0), 1, 4) by kernel_rfl) rfl (m * 16) (by decide) (by omega)
  obtain ⟨oB, hB, wB⟩ := made_row Yba.underlying47 (show (Yba.prog.info? 5).map (fun i => (i.zero, i.size, i.bytes)) = some (some (.int .u8 0), 1, 1) by kernel_rfl) rfl m (by decide) (by omega)
  have LWOAB : ∀ (vW vO vA vB : Value) (gW gO gA gB : Nat) (wx : World), New wb wx → NewRow wx wb.heap.size 21 (m * 8) (.int .i32 0) vW gW → NewRow wx wb.heap.size 5 m (.int .u8 0) vO gO → NewRow wx wb.heap.size 21 (m * 16) (.int .i32 0) vA gA → NewRow wx wb.heap.size 5 m (.int .u8 0) vB gB → gW ≠ gO → gW ≠ gA → gW ≠ gB → gO ≠ gA → gO ≠ gB → gA ≠ gB → wpAny Yba.prog .any ops Q 3 #[true, true, true, true, false, true, true, true, true, true, true, true, true, true, true, true, true, true, true, false, false] (A13 t0 t4 undef vW vO vA vB m) wx := by
    intro vW vO vA vB gW gO gA gB wx hn kW kO kA kB xWO xWA xWB xOA xOB xAB
    refine wpAny_ready rWOAB (by simp) ?_
    refine AllReady.cons e4 (fun K hK => ?_) ?_
    · refine step_make g4 (.tmp 8) (.tmp 8) 46 p4 rfl rfl (hL wx) (hK _ _ ?_)
      rw [d4]
      exact fin (.slice (some ⟨wx.heap.size, 0, none⟩) m m) vW vO vA vB wx.heap.size gW gO gA gB (wx.alloc oL) (hn.alloc _) ⟨rfl, hn.size, wL wx⟩ (kW.alloc _) (kO.alloc _) (kA.alloc _) (kB.alloc _) (by have := kW.lt; omega) (by have := kO.lt; omega) (by have := kA.lt; omega) (by have := kB.lt; omega) xWO xWA xWB xOA xOB xAB
    exact AllReady.nil
  have LLOAB : ∀ (vL vO vA vB : Value) (gL gO gA gB : Nat) (wx : World), New wb wx → NewRow wx wb.heap.size 49 m (.slice none 0 0) vL gL → NewRow wx wb.heap.size 5 m (.int .u8 0) vO gO → NewRow wx wb.heap.size 21 (m * 16) (.int .i32 0) vA gA → NewRow wx wb.heap.size 5 m (.int .u8 0) vB gB → gL ≠ gO → gL ≠ gA → gL ≠ gB → gO ≠ gA → gO ≠ gB → gA ≠ gB → wpAny Yba.prog .any ops Q 3 #[true, true, true, true, true, true, true, true, false, true, true, true, true, true, true, true, true, true, true, false, false] (A13 t0 t4 vL undef vO vA vB m) wx := by
    intro vL vO vA vB gL gO gA gB wx hn kL kO kA kB xLO xLA xLB xOA xOB xAB
    refine wpAny_ready rLOAB (by simp) ?_
    refine AllReady.cons e8 (fun K hK => ?_) ?_
    · refine step_make g8 (.tmp 12) (.tmp 12) 45 p8 rfl rfl (hW wx) (hK _ _ ?_)
      rw [d8]
      exact fin vL (.slice (some ⟨wx.heap.size, 0, none⟩) (m * 8) (m * 8)) vO vA vB gL wx.heap.size gO gA gB (wx.alloc oW) (hn.alloc _) (kL.alloc _) ⟨rfl, hn.size, wW wx⟩ (kO.alloc _) (kA.alloc _) (kB.alloc _) (by have := kL.lt; omega) xLO xLA xLB (by have := kO.lt; omega) (by have := kA.lt; omega) (by have := kB.lt; omega) xOA xOB xAB
    exact AllReady.nil
  have LLWAB : ∀ (vL vW vA vB : Value) (gL gW gA gB : Nat) (wx : World), New wb wx → NewRow wx wb.heap.size 49 m (.slice none 0 0) vL gL → NewRow wx wb.heap.size 21 (m * 8) (.int .i32 0) vW gW → NewRow wx wb.heap.size 21 (m * 16) (.int .i32 0) vA gA → NewRow wx wb.heap.size 5 m (.int .u8 0) vB gB → gL ≠ gW → gL ≠ gA → gL ≠ gB → gW ≠ gA → gW ≠ gB → gA ≠ gB → wpAny Yba.prog .any ops Q 3 #[true, true, true, true, true, true, true, true, true, true, true, false, true, true, true, true, true, true, true, false, false] (A13 t0 t4 vL vW undef vA vB m) wx := by
    intro vL vW vA vB gL gW gA gB wx hn kL kW kA kB xLW xLA xLB xWA xWB xAB
    refine wpAny_ready rLWAB (by simp) ?_
    refine AllReady.cons e11 (fun K hK => ?_) ?_
    · refine step_make g11 (.tmp 15) (.tmp 15) 47 p11 rfl rfl (hO wx) (hK _ _ ?_)
      rw [d11]
      exact fin vL vW (.slice (some ⟨wx.heap.size, 0, none⟩) m m) vA vB gL gW wx.heap.size gA gB (wx.alloc oO) (hn.alloc _) (kL.alloc _) (kW.alloc _) ⟨rfl, hn.size, wO wx⟩ (kA.alloc _) (kB.alloc _) xLW (by have := kL.lt; omega) xLA xLB (by have := kW.lt; omega) xWA xWB (by have := kA.lt; omega) (by have := kB.lt; omega) xAB
    exact AllReady.nil
  have LLWOB : ∀ (vL vW vO vB : Value) (gL gW gO gB : Nat) (wx : World), New wb wx → NewRow wx wb.heap.size 49 m (.slice none 0 0) vL gL → NewRow wx wb.heap.size 21 (m * 8) (.int .i32 0) vW gW → NewRow wx wb.heap.size 5 m (.int .u8 0) vO gO → NewRow wx wb.heap.size 5 m (.int .u8 0) vB gB → gL ≠ gW → gL ≠ gO → gL ≠ gB → gW ≠ gO → gW ≠ gB → gO ≠ gB → wpAny Yba.prog .any ops Q 3 #[true, true, true, true, true, true, true, true, true, true, true, true, true, true, true, false, true, true, true, false, false] (A13 t0 t4 vL vW vO undef vB m) wx := by
    intro vL vW vO vB gL gW gO gB wx hn kL kW kO kB xLW xLO xLB xWO xWB xOB
    refine wpAny_ready rLWOB (by simp) ?_
    refine AllReady.cons e15 (fun K hK => ?_) ?_
    · refine step_make g15 (.tmp 19) (.tmp 19) 45 p15 rfl rfl (hA wx) (hK _ _ ?_)
      rw [d15]
      exact fin vL vW vO (.slice (some ⟨wx.heap.size, 0, none⟩) (m * 16) (m * 16)) vB gL gW gO wx.heap.size gB (wx.alloc oA) (hn.alloc _) (kL.alloc _) (kW.alloc _) (kO.alloc _) ⟨rfl, hn.size, wA wx⟩ (kB.alloc _) xLW xLO (by have := kL.lt; omega) xLB xWO (by have := kW.lt; omega) xWB (by have := kO.lt; omega) xOB (by have := kB.lt; omega)
    exact AllReady.nil
  have LLWOA : ∀ (vL vW vO vA : Value) (gL gW gO gA : Nat) (wx : World), New wb wx → NewRow wx wb.heap.size 49 m (.slice none 0 0) vL gL → NewRow wx wb.heap.size 21 (m * 8) (.int .i32 0) vW gW → NewRow wx wb.heap.size 5 m (.int .u8 0) vO gO → NewRow wx wb.heap.size 21 (m * 16) (.int .i32 0) vA gA → gL ≠ gW → gL ≠ gO → gL ≠ gA → gW ≠ gO → gW ≠ gA → gO ≠ gA → wpAny Yba.prog .any ops Q 3 #[true, true, true, true, true, true, true, true, true, true, true, true, true, true, true, true, true, true, false, false, false] (A13 t0 t4 vL vW vO vA undef m) wx := by
    intro vL vW vO vA gL gW gO gA wx hn kL kW kO kA xLW xLO xLA xWO xWA xOA
    refine wpAny_ready rLWOA (by simp) ?_
    refine AllReady.cons e18 (fun K hK => ?_) ?_
    · refine step_make g18 (.tmp 22) (.tmp 22) 47 p18 rfl rfl (hB wx) (hK _ _ ?_)
      rw [d18]
      exact fin vL vW vO vA (.slice (some ⟨wx.heap.size, 0, none⟩) m m) gL gW gO gA wx.heap.size (wx.alloc oB) (hn.alloc _) (kL.alloc _) (kW.alloc _) (kO.alloc _) (kA.alloc _) ⟨rfl, hn.size, wB wx⟩ xLW xLO xLA (by have := kL.lt; omega) xWO xWA (by have := kW.lt; omega) xOA (by have := kO.lt; omega) (by have := kA.lt; omega)
    exact AllReady.nil
  have LOAB : ∀ (vO vA vB : Value) (gO gA gB : Nat) (wx : World), New wb wx → NewRow wx wb.heap.size 5 m (.int .u8 0) vO gO → NewRow wx wb.heap.size 21 (m * 16) (.int .i32 0) vA gA → NewRow wx wb.heap.size 5 m (.int .u8 0) vB gB → gO ≠ gA → gO ≠ gB → gA ≠ gB → wpAny Yba.prog .any ops Q 4 #[true, true, true, true, false, true, true, true, false, true, true, true, true, true, true, true, true, true, true, false, false] (A13 t0 t4 undef undef vO vA vB m) wx := by
    intro vO vA vB gO gA gB wx hn kO kA kB xOA xOB xAB
    refine wpAny_ready rOAB (by simp) ?_
    refine AllReady.cons e4 (fun K hK => ?_) ?_
    · refine step_make g4 (.tmp 8) (.tmp 8) 46 p4 rfl rfl (hL wx) (hK _ _ ?_)
      rw [d4]
      exact LLOAB (.slice (some ⟨wx.heap.size, 0, none⟩) m m) vO vA vB wx.heap.size gO gA gB (wx.alloc oL) (hn.alloc _) ⟨rfl, hn.size, wL wx⟩ (kO.alloc _) (kA.alloc _) (kB.alloc _) (by have := kO.lt; omega) (by have := kA.lt; omega) (by have := kB.lt; omega) xOA xOB xAB
    refine AllReady.cons e8 (fun K hK => ?_) ?_
    · refine step_make g8 (.tmp 12) (.tmp 12) 45 p8 rfl rfl (hW wx) (hK _ _ ?_)
      rw [d8]
      exact LWOAB (.slice (some ⟨wx.heap.size, 0, none⟩) (m * 8) (m * 8)) vO vA vB wx.heap.size gO gA gB (wx.alloc oW) (hn.alloc _) ⟨rfl, hn.size, wW wx⟩ (kO.alloc _) (kA.alloc _) (kB.alloc _) (by have := kO.lt; omega) (by have := kA.lt; omega) (by have := kB.lt; omega) xOA xOB xAB
    exact AllReady.nil
  have LWAB : ∀ (vW vA vB : Value) (gW gA gB : Nat) (wx : World), New wb wx → NewRow wx wb.heap.size 21 (m * 8) (.int .i32 0) vW gW → NewRow wx wb.heap.size 21 (m * 16) (.int .i32 0) vA gA → NewRow wx wb.heap.size 5 m (.int .u8 0) vB gB → gW ≠ gA → gW ≠ gB → gA ≠ gB → wpAny Yba.prog .any ops Q 4 #[true, true, true, true, false, true, true, true, true, true, true, false, true, true, true, true, true, true, true, false, false] (A13 t0 t4 undef vW undef vA vB m) wx := by
    intro vW vA vB gW gA gB wx hn kW kA kB xWA xWB xAB
    refine wpAny_ready rWAB (by simp) ?_
    refine AllReady.cons e4 (fun K hK => ?_) ?_
    · refine step_make g4 (.tmp 8) (.tmp 8) 46 p4 rfl rfl (hL wx) (hK _ _ ?_)
      rw [d4]
      exact LLWAB (.slice (some ⟨wx.heap.size, 0, none⟩) m m) vW vA vB wx.heap.size gW gA gB (wx.alloc oL) (hn.alloc _) ⟨rfl, hn.size, wL wx⟩ (kW.alloc _) (kA.alloc _) (kB.alloc _) (by have := kW.lt; omega) (by have := kA.lt; omega) (by have := kB.lt; omega) xWA xWB xAB
    refine AllReady.cons e11 (fun K hK => ?_) ?_
    · refine step_make g11 (.tmp 15) (.tmp 15) 47 p11 rfl rfl (hO wx) (hK _ _ ?_)
      rw [d11]
      exact LWOAB vW (.slice (some ⟨wx.heap.size, 0, none⟩) m m) vA vB gW wx.heap.size gA gB (wx.alloc oO) (hn.alloc _) (kW.alloc _) ⟨rfl, hn.size, wO wx⟩ (kA.alloc _) (kB.alloc _) (by have := kW.lt; omega) xWA xWB (by have := kA.lt; omega) (by have := kB.lt; omega) xAB
    exact AllReady.nil
  have LWOB : ∀ (vW vO vB : Value) (gW gO gB : Nat) (wx : World), New wb wx → NewRow wx wb.heap.size 21 (m * 8) (.int .i32 0) vW gW → NewRow wx wb.heap.size 5 m (.int .u8 0) vO gO → NewRow wx wb.heap.size 5 m (.int .u8 0) vB gB → gW ≠ gO → gW ≠ gB → gO ≠ gB → wpAny Yba.prog .any ops Q 4 #[true, true, true, true, false, true, true, true, true, true, true, true, true, true, true, false, true, true, true, false, false] (A13 t0 t4 undef vW vO undef vB m) wx := by
    intro vW vO vB gW gO gB wx hn kW kO kB xWO xWB xOB
    refine wpAny_ready rWOB (by simp) ?_
    refine AllReady.cons e4 (fun K hK => ?_) ?_
    · refine step_make g4 (.tmp 8) (.tmp 8) 46 p4 rfl rfl (hL wx) (hK _ _ ?_)
      rw [d4]
      exact LLWOB (.slice (some ⟨wx.heap.size, 0, none⟩) m m) vW vO vB wx.heap.size gW gO gB (wx.alloc oL) (hn.alloc _) ⟨rfl, hn.size, wL wx⟩ (kW.alloc _) (kO.alloc _) (kB.alloc _) (by have := kW.lt; omega) (by have := kO.lt; omega) (by have := kB.lt; omega) xWO xWB xOB
    refine AllReady.cons e15 (fun K hK => ?_) ?_
    · refine step_make g15 (.tmp 19) (.tmp 19) 45 p15 rfl rfl (hA wx) (hK _ _ ?_)
      rw [d15]
      exact LWOAB vW vO (.slice (some ⟨wx.heap.size, 0, none⟩) (m * 16) (m * 16)) vB gW gO wx.heap.size gB (wx.alloc oA) (hn.alloc _) (kW.alloc _) (kO.alloc _) ⟨rfl, hn.size, wA wx⟩ (kB.alloc _) xWO (by have := kW.lt; omega) xWB (by have := kO.lt; omega) xOB (by have := kB.lt; omega)
    exact AllReady.nil
  have LWOA : ∀ (vW vO vA : Value) (gW gO gA : Nat) (wx : World), New wb wx → NewRow wx wb.heap.size 21 (m * 8) (.int .i32 0) vW gW → NewRow wx wb.heap.size 5 m (.int .u8 0) vO gO → NewRow wx wb.heap.size 21 (m * 16) (.int .i32 0) vA gA → gW ≠ gO → gW ≠ gA → gO ≠ gA → wpAny Yba.prog .any ops Q 4 #[true, true, true, true, false, true, true, true, true, true, true, true, true, true, true, true, true, true, false, false, false] (A13 t0 t4 undef vW vO vA undef m) wx := by
    intro vW vO vA gW gO gA wx hn kW kO kA xWO xWA xOA
    refine wpAny_ready rWOA (by simp) ?_
    refine AllReady.cons e4 (fun K hK => ?_) ?_
    · refine step_make g4 (.tmp 8) (.tmp 8) 46 p4 rfl rfl (hL wx) (hK _ _ ?_)
      rw [d4]
      exact LLWOA (.slice (some ⟨wx.heap.size, 0, none⟩) m m) vW vO vA wx.heap.size gW gO gA (wx.alloc oL) (hn.alloc _) ⟨rfl, hn.size, wL wx⟩ (kW.alloc _) (kO.alloc _) (kA.alloc _) (by have := kW.lt; omega) (by have := kO.lt; omega) (by have := kA.lt; omega) xWO xWA xOA
    refine AllReady.cons e18 (fun K hK => ?_) ?_
    · refine step_make g18 (.tmp 22) (.tmp 22) 47 p18 rfl rfl (hB wx) (hK _ _ ?_)
      rw [d18]
      exact LWOAB vW vO vA (.slice (some ⟨wx.heap.size, 0, none⟩) m m) gW gO gA wx.heap.size (wx.alloc oB) (hn.alloc _) (kW.alloc _) (kO.alloc _) (kA.alloc _) ⟨rfl, hn.size, wB wx⟩ xWO xWA (by have := kW.lt; omega) xOA (by have := kO.lt; omega) (by have := kA.lt; omega)
    exact AllReady.nil
  have LLAB : ∀ (vL vA vB : Value) (gL gA gB : Nat) (wx : World), New wb wx → NewRow wx wb.heap.size 49 m (.slice none 0 0) vL gL → NewRow wx wb.heap.size 21 (m * 16) (.int .i32 0) vA gA → NewRow wx wb.heap.size 5 m (.int .u8 0) vB gB → gL ≠ gA → gL ≠ gB → gA ≠ gB → wpAny Yba.prog .any ops Q 4 #[true, true, true, true, true, true, true, true, false, true, true, false, true, true, true, true, true, true, true, false, false] (A13 t0 t4 vL undef undef vA vB m) wx := by
    intro vL vA vB gL gA gB wx hn kL kA kB xLA xLB xAB
    refine wpAny_ready rLAB (by simp) ?_
    refine AllReady.cons e8 (fun K hK => ?_) ?_
    · refine step_make g8 (.tmp 12) (.tmp 12) 45 p8 rfl rfl (hW wx) (hK _ _ ?_)
      rw [d8]
      exact LLWAB vL (.slice (some ⟨wx.heap.size, 0, none⟩) (m * 8) (m * 8)) vA vB gL wx.heap.size gA gB (wx.alloc oW) (hn.alloc _) (kL.alloc _) ⟨rfl, hn.size, wW wx⟩ (kA.alloc _) (kB.alloc _) (by have := kL.lt; omega) xLA xLB (by have := kA.lt; omega) (by have := kB.lt; omega) xAB
    refine AllReady.cons e11 (fun K hK => ?_) ?_
    · refine step_make g11 (.tmp 15) (.tmp 15) 47 p11 rfl rfl (hO wx) (hK _ _ ?_)
      rw [d11]
      exact LLOAB vL (.slice (some ⟨wx.heap.size, 0, none⟩) m m) vA vB gL wx.heap.size gA gB (wx.alloc oO) (hn.alloc _) (kL.alloc _) ⟨rfl, hn.size, wO wx⟩ (kA.alloc _) (kB.alloc _) (by have := kL.lt; omega) xLA xLB (by have := kA.lt; omega) (by have := kB.lt; omega) xAB
    exact AllReady.nil
  have LLOB : ∀ (vL vO vB : Value) (gL gO gB : Nat) (wx : World), New wb wx → NewRow wx wb.heap.size 49 m (.slice none 0 0) vL gL → NewRow wx wb.heap.size 5 m (.int .u8 0) vO gO → NewRow wx wb.heap.size 5 m (.int .u8 0) vB gB → gL ≠ gO → gL ≠ gB → gO ≠ gB → wpAny Yba.prog .any ops Q 4 #[true, true, true, true, true, true, true, true, false, true, true, true, true, true, true, false, true, true, true, false, false] (A13 t0 t4 vL undef vO undef vB m) wx := by
    intro vL vO vB gL gO gB wx hn kL kO kB xLO xLB xOB
    refine wpAny_ready rLOB (by simp) ?_
    refine AllReady.cons e8 (fun K hK => ?_) ?_
    · refine step_make g8 (.tmp 12) (.tmp 12) 45 p8 rfl rfl (hW wx) (hK _ _ ?_)
      rw [d8]
      exact LLWOB vL (.slice (some ⟨wx.heap.size, 0, none⟩) (m * 8) (m * 8)) vO vB gL wx.heap.size gO gB (wx.alloc oW) (hn.alloc _) (kL.alloc _) ⟨rfl, hn.size, wW wx⟩ (kO.alloc _) (kB.alloc _) (by have := kL.lt; omega) xLO xLB (by have := kO.lt; omega) (by have := kB.lt; omega) xOB
    refine AllReady.cons e15 (fun K hK => ?_) ?_
    · refine step_make g15 (.tmp 19) (.tmp 19) 45 p15 rfl rfl (hA wx) (hK _ _ ?_)
      rw [d15]
      exact LLOAB vL vO (.slice (some ⟨wx.heap.size, 0, none⟩) (m * 16) (m * 16)) vB gL gO wx.heap.size gB (wx.alloc oA) (hn.alloc _) (kL.alloc _) (kO.alloc _) ⟨rfl, hn.size, wA wx⟩ (kB.alloc _) xLO (by have := kL.lt; omega) xLB (by have := kO.lt; omega) xOB (by have := kB.lt; omega)
    exact AllReady.nil
  have LLOA : ∀ (vL vO vA : Value) (gL gO gA : Nat) (wx : World), New wb wx → NewRow wx wb.heap.size 49 m (.slice none 0 0) vL gL → NewRow wx wb.heap.size 5 m (.int .u8 0) vO gO → NewRow wx wb.heap.size 21 (m * 16) (.int .i32 0) vA gA → gL ≠ gO → gL ≠ gA → gO ≠ gA → wpAny Yba.prog .any ops Q 4 #[true, true, true, true, true, true, true, true, false, true, true, true, true, true, true, true, true, true, false, false, false] (A13 t0 t4 vL undef vO vA undef m) wx := by
    intro vL vO vA gL gO gA wx hn kL kO kA xLO xLA xOA
    refine wpAny_ready rLOA (by simp) ?_
    refine AllReady.cons e8 (fun K hK => ?_) ?_
    · refine step_make g8 (.tmp 12) (.tmp 12) 45 p8 rfl rfl (hW wx) (hK _ _ ?_)
      rw [d8]
      exact LLWOA vL (.slice (some ⟨wx.heap.size, 0, none⟩) (m * 8) (m * 8)) vO vA gL wx.heap.size gO gA (wx.alloc oW) (hn.alloc _) (kL.alloc _) ⟨rfl, hn.size, wW wx⟩ (kO.alloc _) (kA.alloc _) (by have := kL.lt; omega) xLO xLA (by have := kO.lt; omega) (by have := kA.lt; omega) xOA
    refine AllReady.cons e18 (fun K hK => ?_) ?_
    · refine step_make g18 (.tmp 22) (.tmp 22) 47 p18 rfl rfl (hB wx) (hK _ _ ?_)
      rw [d18]
      exact LLOAB vL vO vA (.slice (some ⟨wx.heap.size, 0, none⟩) m m) gL gO gA wx.heap.size (wx.alloc oB) (hn.alloc _) (kL.alloc _) (kO.alloc _) (kA.alloc _) ⟨rfl, hn.size, wB wx⟩ xLO xLA (by have := kL.lt; omega) xOA (by have := kO.lt; omega) (by have := kA.lt; omega)
    exact AllReady.nil
  have LLWB : ∀ (vL vW vB : Value) (gL gW gB : Nat) (wx : World), New wb wx → NewRow wx wb.heap.size 49 m (.slice none 0 0) vL gL → NewRow wx wb.heap.size 21 (m * 8) (.int .i32 0) vW gW → NewRow wx wb.heap.size 5 m (.int .u8 0) vB gB → gL ≠ gW → gL ≠ gB → gW ≠ gB → wpAny Yba.prog .any ops Q 4 #[true, true, true, true, true, true, true, true, true, true, true, false, true, true, true, false, true, true, true, false, false] (A13 t0 t4 vL vW undef undef vB m) wx := by
    intro vL vW vB gL gW gB wx hn kL kW kB xLW xLB xWB
    refine wpAny_ready rLWB (by simp) ?_
    refine AllReady.cons e11 (fun K hK => ?_) ?_
    · refine step_make g11 (.tmp 15) (.tmp 15) 47 p11 rfl rfl (hO wx) (hK _ _ ?_)
      rw [d11]
      exact LLWOB vL vW (.slice (some ⟨wx.heap.size, 0, none⟩) m m) vB gL gW wx.heap.size gB (wx.alloc oO) (hn.alloc _) (kL.alloc _) (kW.alloc _) ⟨rfl, hn.size, wO wx⟩ (kB.alloc _) xLW (by have := kL.lt; omega) xLB (by have := kW.lt; omega) xWB (by have := kB.lt; omega)
    refine AllReady.cons e15 (fun K hK => ?_) ?_
    · refine step_make g15 (.tmp 19) (.tmp 19) 45 p15 rfl rfl (hA wx) (hK _ _ ?_)
      rw [d15]
      exact LLWAB vL vW (.slice (some ⟨wx.heap.size, 0, none⟩) (m * 16) (m * 16)) vB gL gW wx.heap.size gB (wx.alloc oA) (hn.alloc _) (kL.alloc _) (kW.alloc _) ⟨rfl, hn.size, wA wx⟩ (kB.alloc _) xLW (by have := kL.lt; omega) xLB (by have := kW.lt; omega) xWB (by have := kB.lt; omega)
    exact AllReady.nil
  have LLWA : ∀ (vL vW vA : Value) (gL gW gA : Nat) (wx : World), New wb wx → NewRow wx wb.heap.size 49 m (.slice none 0 0) vL gL → NewRow wx wb.heap.size 21 (m * 8) (.int .i32 0) vW gW → NewRow wx wb.heap.size 21 (m * 16) (.int .i32 0) vA gA → gL ≠ gW → gL ≠ gA → gW ≠ gA → wpAny Yba.prog .any ops Q 4 #[true, true, true, true, true, true, true, true, true, true, true, false, true, true, true, true, true, true, false, false, false] (A13 t0 t4 vL vW undef vA undef m) wx := by
    intro vL vW vA gL gW gA wx hn kL kW kA xLW xLA xWA
    refine wpAny_ready rLWA (by simp) ?_
    refine AllReady.cons e11 (fun K hK => ?_) ?_
    · refine step_make g11 (.tmp 15) (.tmp 15) 47 p11 rfl rfl (hO wx) (hK _ _ ?_)
      rw [d11]
      exact LLWOA vL vW (.slice (some ⟨wx.heap.size, 0, none⟩) m m) vA gL gW wx.heap.size gA (wx.alloc oO) (hn.alloc _) (kL.alloc _) (kW.alloc _) ⟨rfl, hn.size, wO wx⟩ (kA.alloc _) xLW (by have := kL.lt; omega) xLA (by have := kW.lt; omega) xWA (by have := kA.lt; omega)
    refine AllReady.cons e18 (fun K hK => ?_) ?_
    · refine step_make g18 (.tmp 22) (.tmp 22) 47 p18 rfl rfl (hB wx) (hK _ _ ?_)
      rw [d18]
      exact LLWAB vL vW vA (.slice (some ⟨wx.heap.size, 0, none⟩) m m) gL gW gA wx.heap.size (wx.alloc oB) (hn.alloc _) (kL.alloc _) (kW.alloc _) (kA.alloc _) ⟨rfl, hn.size, wB wx⟩ xLW xLA (by have := kL.lt; omega) xWA (by have := kW.lt; omega) (by have := kA.lt; omega)
    exact AllReady.nil
  have LLWO : ∀ (vL vW vO : Value) (gL gW gO : Nat) (wx : World), New wb wx → NewRow wx wb.heap.size 49 m (.slice none 0 0) vL gL → NewRow wx wb.heap.size 21 (m * 8) (.int .i32 0) vW gW → NewRow wx wb.heap.size 5 m (.int .u8 0) vO gO → gL ≠ gW → gL ≠ gO → gW ≠ gO → wpAny Yba.prog .any ops Q 4 #[true, true, true, true, true, true, true, true, true, true, true, true, true, true, true, false, true, true, false, false, false] (A13 t0 t4 vL vW vO undef undef m) wx := by
    intro vL vW vO gL gW gO wx hn kL kW kO xLW xLO xWO
    refine wpAny_ready rLWO (by simp) ?_
    refine AllReady.cons e15 (fun K hK => ?_) ?_
    · refine step_make g15 (.tmp 19) (.tmp 19) 45 p15 rfl rfl (hA wx) (hK _ _ ?_)
      rw [d15]
      exact LLWOA vL vW vO (.slice (some ⟨wx.heap.size, 0, none⟩) (m * 16) (m * 16)) gL gW gO wx.heap.size (wx.alloc oA) (hn.alloc _) (kL.alloc _) (kW.alloc _) (kO.alloc _) ⟨rfl, hn.size, wA wx⟩ xLW xLO (by have := kL.lt; omega) xWO (by have := kW.lt; omega) (by have := kO.lt; omega)
    refine AllReady.cons e18 (fun K hK => ?_) ?_
    · refine step_make g18 (.tmp 22) (.tmp 22) 47 p18 rfl rfl (hB wx) (hK _ _ ?_)
      rw [d18]
      exact LLWOB vL vW vO (.slice (some ⟨wx.heap.size, 0, none⟩) m m) gL gW gO wx.heap.size (wx.alloc oB) (hn.alloc _) (kL.alloc _) (kW.alloc _) (kO.alloc _) ⟨rfl, hn.size, wB wx⟩ xLW xLO (by have := kL.lt; omega) xWO (by have := kW.lt; omega) (by have := kO.lt; omega)
    exact AllReady.nil
  have LAB : ∀ (vA vB : Value) (gA gB : Nat) (wx : World), New wb wx → NewRow wx wb.heap.size 21 (m * 16) (.int .i32 0) vA gA → NewRow wx wb.heap.size 5 m (.int .u8 0) vB gB → gA ≠ gB → wpAny Yba.prog .any ops Q 5 #[true, true, true, true, false, true, true, true, false, true, true, false, true, true, true, true, true, true, true, false, false] (A13 t0 t4 undef undef undef vA vB m) wx := by
    intro vA vB gA gB wx hn kA kB xAB
    refine wpAny_ready rAB (by simp) ?_
    refine AllReady.cons e4 (fun K hK => ?_) ?_
    · refine step_make g4 (.tmp 8) (.tmp 8) 46 p4 rfl rfl (hL wx) (hK _ _ ?_)
      rw [d4]
      exact LLAB (.slice (some ⟨wx.heap.size, 0, none⟩) m m) vA vB wx.heap.size gA gB (wx.alloc oL) (hn.alloc _) ⟨rfl, hn.size, wL wx⟩ (kA.alloc _) (kB.alloc _) (by have := kA.lt; omega) (by have := kB.lt; omega) xAB
    refine AllReady.cons e8 (fun K hK => ?_) ?_
    · refine step_make g8 (.tmp 12) (.tmp 12) 45 p8 rfl rfl (hW wx) (hK _ _ ?_)
      rw [d8]
      exact LWAB (.slice (some ⟨wx.heap.size, 0, none⟩) (m * 8) (m * 8)) vA vB wx.heap.size gA gB (wx.alloc oW) (hn.alloc _) ⟨rfl, hn.size, wW wx⟩ (kA.alloc _) (kB.alloc _) (by have := kA.lt; omega) (by have := kB.lt; omega) xAB
    refine AllReady.cons e11 (fun K hK => ?_) ?_
    · refine step_make g11 (.tmp 15) (.tmp 15) 47 p11 rfl rfl (hO wx) (hK _ _ ?_)
      rw [d11]
      exact LOAB (.slice (some ⟨wx.heap.size, 0, none⟩) m m) vA vB wx.heap.size gA gB (wx.alloc oO) (hn.alloc _) ⟨rfl, hn.size, wO wx⟩ (kA.alloc _) (kB.alloc _) (by have := kA.lt; omega) (by have := kB.lt; omega) xAB
    exact AllReady.nil
  have LOB : ∀ (vO vB : Value) (gO gB : Nat) (wx : World), New wb wx → NewRow wx wb.heap.size 5 m (.int .u8 0) vO gO → NewRow wx wb.heap.size 5 m (.int .u8 0) vB gB → gO ≠ gB → wpAny Yba.prog .any ops Q 5 #[true, true, true, true, false, true, true, true, false, true, true, true, true, true, true, false, true, true, true, false, false] (A13 t0 t4 undef undef vO undef vB m) wx := by
    intro vO vB gO gB wx hn kO kB xOB
    refine wpAny_ready rOB (by simp) ?_
    refine AllReady.cons e4 (fun K hK => ?_) ?_
    · refine step_make g4 (.tmp 8) (.tmp 8) 46 p4 rfl rfl (hL wx) (hK _ _ ?_)
      rw [d4]
      exact LLOB (.slice (some ⟨wx.heap.size, 0, none⟩) m m) vO vB wx.heap.size gO gB (wx.alloc oL) (hn.alloc _) ⟨rfl, hn.size, wL wx⟩ (kO.alloc _) (kB.alloc _) (by have := kO.lt; omega) (by have := kB.lt; omega) xOB
    refine AllReady.cons e8 (fun K hK => ?_) ?_
    · refine step_make g8 (.tmp 12) (.tmp 12) 45 p8 rfl rfl (hW wx) (hK _ _ ?_)
      rw [d8]
      exact LWOB (.slice (some ⟨wx.heap.size, 0, none⟩) (m * 8) (m * 8)) vO vB wx.heap.size gO gB (wx.alloc oW) (hn.alloc _) ⟨rfl, hn.size, wW wx⟩ (kO.alloc _) (kB.alloc _) (by have := kO.lt; omega) (by have := kB.lt; omega) xOB
    refine AllReady.cons e15 (fun K hK => ?_) ?_
    · refine step_make g15 (.tmp 19) (.tmp 19) 45 p15 rfl rfl (hA wx) (hK _ _ ?_)
      rw [d15]
      exact LOAB vO (.slice (some ⟨wx.heap.size, 0, none⟩) (m * 16) (m * 16)) vB gO wx.heap.size gB (wx.alloc oA) (hn.alloc _) (kO.alloc _) ⟨rfl, hn.size, wA wx⟩ (kB.alloc _) (by have := kO.lt; omega) xOB (by have := kB.lt; omega)
    exact AllReady.nil
  have LOA : ∀ (vO vA : Value) (gO gA : Nat) (wx : World), New wb wx → NewRow wx wb.heap.size 5 m (.int .u8 0) vO gO → NewRow wx wb.heap.size 21 (m * 16) (.int .i32 0) vA gA → gO ≠ gA → wpAny Yba.prog .any ops Q 5 #[true, true, true, true, false, true, true, true, false, true, true, true, true, true, true, true, true, true, false, false, false] (A13 t0 t4 undef undef vO vA undef m) wx := by
    intro vO vA gO gA wx hn kO kA xOA
    refine wpAny_ready rOA (by simp) ?_
    refine AllReady.cons e4 (fun K hK => ?_) ?_
    · refine step_make g4 (.tmp 8) (.tmp 8) 46 p4 rfl rfl (hL wx) (hK _ _ ?_)
      rw [d4]
      exact LLOA (.slice (some ⟨wx.heap.size, 0, none⟩) m m) vO vA wx.heap.size gO gA (wx.alloc oL) (hn.alloc _) ⟨rfl, hn.size, wL wx⟩ (kO.alloc _) (kA.alloc _) (by have := kO.lt; omega) (by have := kA.lt; omega) xOA
    refine AllReady.cons e8 (fun K hK => ?_) ?_
    · refine step_make g8 (.tmp 12) (.tmp 12) 45 p8 rfl rfl (hW wx) (hK _ _ ?_)
      rw [d8]
      exact LWOA (.slice (some ⟨wx.heap.size, 0, none⟩) (m * 8) (m * 8)) vO vA wx.heap.size gO gA (wx.alloc oW) (hn.alloc _) ⟨rfl, hn.size, wW wx⟩ (kO.alloc _) (kA.alloc _) (by have := kO.lt; omega) (by have := kA.lt; omega) xOA
    refine AllReady.cons e18 (fun K hK => ?_) ?_
    · refine step_make g18 (.tmp 22) (.tmp 22) 47 p18 rfl rfl (hB wx) (hK _ _ ?_)
      rw [d18]
      exact LOAB vO vA (.slice (some ⟨wx.heap.size, 0, none⟩) m m) gO gA wx.heap.size (wx.alloc oB) (hn.alloc _) (kO.alloc _) (kA.alloc _) ⟨rfl, hn.size, wB wx⟩ xOA (by have := kO.lt; omega) (by have := kA.lt; omega)
    exact AllReady.nil
  have LWB : ∀ (vW vB : Value) (gW gB : Nat) (wx : World), New wb wx → NewRow wx wb.heap.size 21 (m * 8) (.int .i32 0) vW gW → NewRow wx wb.heap.size 5 m (.int .u8 0) vB gB → gW ≠ gB → wpAny Yba.prog .any ops Q 5 #[true, true, true, true, false, true, true, true, true, true, true, false, true, true, true, false, true, true, true, false, false] (A13 t0 t4 undef vW undef undef vB m) wx := by
    intro vW vB gW gB wx hn kW kB xWB
    refine wpAny_ready rWB (by simp) ?_
    refine AllReady.cons e4 (fun K hK => ?_) ?_
    · refine step_make g4 (.tmp 8) (.tmp 8) 46 p4 rfl rfl (hL wx) (hK _ _ ?_)
      rw [d4]
      exact LLWB (.slice (some ⟨wx.heap.size, 0, none⟩) m m) vW vB wx.heap.size gW gB (wx.alloc oL) (hn.alloc _) ⟨rfl, hn.size, wL wx⟩ (kW.alloc _) (kB.alloc _) (by have := kW.lt; omega) (by have := kB.lt; omega) xWB
    refine AllReady.cons e11 (fun K hK => ?_) ?_
    · refine step_make g11 (.tmp 15) (.tmp 15) 47 p11 rfl rfl (hO wx) (hK _ _ ?_)
      rw [d11]
      exact LWOB vW (.slice (some ⟨wx.heap.size, 0, none⟩) m m) vB gW wx.heap.size gB (wx.alloc oO) (hn.alloc _) (kW.alloc _) ⟨rfl, hn.size, wO wx⟩ (kB.alloc _) (by have := kW.lt; omega) xWB (by have := kB.lt; omega)
    refine AllReady.cons e15 (fun K hK => ?_) ?_
    · refine step_make g15 (.tmp 19) (.tmp 19) 45 p15 rfl rfl (hA wx) (hK _ _ ?_)
      rw [d15]
      exact LWAB vW (.slice (some ⟨wx.heap.size, 0, none⟩) (m * 16) (m * 16)) vB gW wx.heap.size gB (wx.alloc oA) (hn.alloc _) (kW.alloc _) ⟨rfl, hn.size, wA wx⟩ (kB.alloc _) (by have := kW.lt; omega) xWB (by have := kB.lt; omega)
    exact AllReady.nil
  have LWA : ∀ (vW vA : Value) (gW gA : Nat) (wx : World), New wb wx → NewRow wx wb.heap.size 21 (m * 8) (.int .i32 0) vW gW → NewRow wx wb.heap.size 21 (m * 16) (.int .i32 0) vA gA → gW ≠ gA → wpAny Yba.prog .any ops Q 5 #[true, true, true, true, false, true, true, true, true, true, true, false, true, true, true, true, true, true, false, false, false] (A13 t0 t4 undef vW undef vA undef m) wx := by
    intro vW vA gW gA wx hn kW kA xWA
    refine wpAny_ready rWA (by simp) ?_
    refine AllReady.cons e4 (fun K hK => ?_) ?_
    · refine step_make g4 (.tmp 8) (.tmp 8) 46 p4 rfl rfl (hL wx) (hK _ _ ?_)
      rw [d4]
      exact LLWA (.slice (some ⟨wx.heap.size, 0, none⟩) m m) vW vA wx.heap.size gW gA (wx.alloc oL) (hn.alloc _) ⟨rfl, hn.size, wL wx⟩ (kW.alloc _) (kA.alloc _) (by have := kW.lt; omega) (by have := kA.lt; omega) xWA
    refine AllReady.cons e11 (fun K hK => ?_) ?_
    · refine step_make g11 (.tmp 15) (.tmp 15) 47 p11 rfl rfl (hO wx) (hK _ _ ?_)
      rw [d11]
      exact LWOA vW (.slice (some ⟨wx.heap.size, 0, none⟩) m m) vA gW wx.heap.size gA (wx.alloc oO) (hn.alloc _) (kW.alloc _) ⟨rfl, hn.size, wO wx⟩ (kA.alloc _) (by have := kW.lt; omega) xWA (by have := kA.lt; omega)
    refine AllReady.cons e18 (fun K hK => ?_) ?_
    · refine step_make g18 (.tmp 22) (.tmp 22) 47 p18 rfl rfl (hB wx) (hK _ _ ?_)
      rw [d18]
      exact LWAB vW vA (.slice (some ⟨wx.heap.size, 0, none⟩) m m) gW gA wx.heap.size (wx.alloc oB) (hn.alloc _) (kW.alloc _) (kA.alloc _) ⟨rfl, hn.size, wB wx⟩ xWA (by have := kW.lt; omega) (by have := kA.lt; omega)
    exact AllReady.nil
  have LWO : ∀ (vW vO : Value) (gW gO : Nat) (wx : World), New wb wx → NewRow wx wb.heap.size 21 (m * 8) (.int .i32 0) vW gW → NewRow wx wb.heap.size 5 m (.int .u8 0) vO gO → gW ≠ gO → wpAny Yba.prog .any ops Q 5 #[true, true, true, true, false, true, true, true, true, true, true, true, true, true, true, false, true, true, false, false, false] (A13 t0 t4 undef vW vO undef undef m) wx := by
    intro vW vO gW gO wx hn kW kO xWO
    refine wpAny_ready rWO (by simp) ?_
    refine AllReady.cons e4 (fun K hK => ?_) ?_
    · refine step_make g4 (.tmp 8) (.tmp 8) 46 p4 rfl rfl (hL wx) (hK _ _ ?_)
      rw [d4]
      exact LLWO (.slice (some ⟨wx.heap.size, 0, none⟩) m m) vW vO wx.heap.size gW gO (wx.alloc oL) (hn.alloc _) ⟨rfl, hn.size, wL wx⟩ (kW.alloc _) (kO.alloc _) (by have := kW.lt; omega) (by have := kO.lt; omega) xWO
    refine AllReady.cons e15 (fun K hK => ?_) ?_
    · refine step_make g15 (.tmp 19) (.tmp 19) 45 p15 rfl rfl (hA wx) (hK _ _ ?_)
      rw [d15]
      exact LWOA vW vO (.slice (some ⟨wx.heap.size, 0, none⟩) (m * 16) (m * 16)) gW gO wx.heap.size (wx.alloc oA) (hn.alloc _) (kW.alloc _) (kO.alloc _) ⟨rfl, hn.size, wA wx⟩ xWO (by have := kW.lt; omega) (by have := kO.lt; omega)
    refine AllReady.cons e18 (fun K hK => ?_) ?_
    · refine step_make g18 (.tmp 22) (.tmp 22) 47 p18 rfl rfl (hB wx) (hK _ _ ?_)
      rw [d18]
      exact LWOB vW vO (.slice (some ⟨wx.heap.size, 0, none⟩) m m) gW gO wx.heap.size (wx.alloc oB) (hn.alloc _) (kW.alloc _) (kO.alloc _) ⟨rfl, hn.size, wB wx⟩ xWO (by have := kW.lt; omega) (by have := kO.lt; omega)
    exact AllReady.nil
  have LLB : ∀ (vL vB : Value) (gL gB : Nat) (wx : World), New wb wx → NewRow wx wb.heap.size 49 m (.slice none 0 0) vL gL → NewRow wx wb.heap.size 5 m (.int .u8 0) vB gB → gL ≠ gB → wpAny Yba.prog .any ops Q 5 #[true, true, true, true, true, true, true, true, false, true, true, false, true, true, true, false, true, true, true, false, false] (A13 t0 t4 vL undef undef undef vB m) wx := by
    intro vL vB gL gB wx hn kL kB xLB
    refine wpAny_ready rLB (by simp) ?_
    refine AllReady.cons e8 (fun K hK => ?_) ?_
    · refine step_make g8 (.tmp 12) (.tmp 12) 45 p8 rfl rfl (hW wx) (hK _ _ ?_)
      rw [d8]
      exact LLWB vL (.slice (some ⟨wx.heap.size, 0, none⟩) (m * 8) (m * 8)) vB gL wx.heap.size gB (wx.alloc oW) (hn.alloc _) (kL.alloc _) ⟨rfl, hn.size, wW wx⟩ (kB.alloc _) (by have := kL.lt; omega) xLB (by have := kB.lt; omega)
    refine AllReady.cons e11 (fun K hK => ?_) ?_
    · refine step_make g11 (.tmp 15) (.tmp 15) 47 p11 rfl rfl (hO wx) (hK _ _ ?_)
      rw [d11]
      exact LLOB vL (.slice (some ⟨wx.heap.size, 0, none⟩) m m) vB gL wx.heap.size gB (wx.alloc oO) (hn.alloc _) (kL.alloc _) ⟨rfl, hn.size, wO wx⟩ (kB.alloc _) (by have := kL.lt; omega) xLB (by have := kB.lt; omega)
    refine AllReady.cons e15 (fun K hK => ?_) ?_
    · refine step_make g15 (.tmp 19) (.tmp 19) 45 p15 rfl rfl (hA wx) (hK _ _ ?_)
      rw [d15]
      exact LLAB vL (.slice (some ⟨wx.heap.size, 0, none⟩) (m * 16) (m * 16)) vB gL wx.heap.size gB (wx.alloc oA) (hn.alloc _) (kL.alloc _) ⟨rfl, hn.size, wA wx⟩ (kB.alloc _) (by have := kL.lt; omega) xLB (by have := kB.lt; omega)
    exact AllReady.nil
  have LLA : ∀ (vL vA : Value) (gL gA : Nat) (wx : World), New wb wx → NewRow wx wb.heap.size 49 m (.slice none 0 0) vL gL → NewRow wx wb.heap.size 21 (m * 16) (.int .i32 0) vA gA → gL ≠ gA → wpAny Yba.prog .any ops Q 5 #[true, true, true, true, true, true, true, true, false, true, true, false, true, true, true, true, true, true, false, false, false] (A13 t0 t4 vL undef undef vA undef m) wx := by
    intro vL vA gL gA wx hn kL kA xLA
    refine wpAny_ready rLA (by simp) ?_
    refine AllReady.cons e8 (fun K hK => ?_) ?_
    · refine step_make g8 (.tmp 12) (.tmp 12) 45 p8 rfl rfl (hW wx) (hK _ _ ?_)
      rw [d8]
      exact LLWA vL (.slice (some ⟨wx.heap.size, 0, none⟩) (m * 8) (m * 8)) vA gL wx.heap.size gA (wx.alloc oW) (hn.alloc _) (kL.alloc _) ⟨rfl, hn.size, wW wx⟩ (kA.alloc _) (by have := kL.lt; omega) xLA (by have := kA.lt; omega)
    refine AllReady.cons e11 (fun K hK => ?_) ?_
    · refine step_make g11 (.tmp 15) (.tmp 15) 47 p11 rfl rfl (hO wx) (hK _ _ ?_)
      rw [d11]
      exact LLOA vL (.slice (some ⟨wx.heap.size, 0, none⟩) m m) vA gL wx.heap.size gA (wx.alloc oO) (hn.alloc _) (kL.alloc _) ⟨rfl, hn.size, wO wx⟩ (kA.alloc _) (by have := kL.lt; omega) xLA (by have := kA.lt; omega)
    refine AllReady.cons e18 (fun K hK => ?_) ?_
    · refine step_make g18 (.tmp 22) (.tmp 22) 47 p18 rfl rfl (hB wx) (hK _ _ ?_)
      rw [d18]
      exact LLAB vL vA (.slice (some ⟨wx.heap.size, 0, none⟩) m m) gL gA wx.heap.size (wx.alloc oB) (hn.alloc _) (kL.alloc _) (kA.alloc _) ⟨rfl, hn.size, wB wx⟩ xLA (by have := kL.lt; omega) (by have := kA.lt; omega)
    exact AllReady.nil
  have LLO : ∀ (vL vO : Value) (gL gO : Nat) (wx : World), New wb wx → NewRow wx wb.heap.size 49 m (.slice none 0 0) vL gL → NewRow wx wb.heap.size 5 m (.int .u8 0) vO gO → gL ≠ gO → wpAny Yba.prog .any ops Q 5 #[true, true, true, true, true, true, true, true, false, true, true, true, true, true, true, false, true, true, false, false, false] (A13 t0 t4 vL undef vO undef undef m) wx := by
    intro vL vO gL gO wx hn kL kO xLO
    refine wpAny_ready rLO (by simp) ?_
    refine AllReady.cons e8 (fun K hK => ?_) ?_
    · refine step_make g8 (.tmp 12) (.tmp 12) 45 p8 rfl rfl (hW wx) (hK _ _ ?_)
      rw [d8]
      exact LLWO vL (.slice (some ⟨wx.heap.size, 0, none⟩) (m * 8) (m * 8)) vO gL wx.heap.size gO (wx.alloc oW) (hn.alloc _) (kL.alloc _) ⟨rfl, hn.size, wW wx⟩ (kO.alloc _) (by have := kL.lt; omega) xLO (by have := kO.lt; omega)
    refine AllReady.cons e15 (fun K hK => ?_) ?_
    · refine step_make g15 (.tmp 19) (.tmp 19) 45 p15 rfl rfl (hA wx) (hK _ _ ?_)
      rw [d15]
      exact LLOA vL vO (.slice (some ⟨wx.heap.size, 0, none⟩) (m * 16) (m * 16)) gL gO wx.heap.size (wx.alloc oA) (hn.alloc _) (kL.alloc _) (kO.alloc _) ⟨rfl, hn.size, wA wx⟩ xLO (by have := kL.lt; omega) (by have := kO.lt; omega)
    refine AllReady.cons e18 (fun K hK => ?_) ?_
    · refine step_make g18 (.tmp 22) (.tmp 22) 47 p18 rfl rfl (hB wx) (hK _ _ ?_)
      rw [d18]
      exact LLOB vL vO (.slice (some ⟨wx.heap.size, 0, none⟩) m m) gL gO wx.heap.size (wx.alloc oB) (hn.alloc _) (kL.alloc _) (kO.alloc _) ⟨rfl, hn.size, wB wx⟩ xLO (by have := kL.lt; omega) (by have := kO.lt; omega)
    exact AllReady.nil
  have LLW : ∀ (vL vW : Value) (gL gW : Nat) (wx : World), New wb wx → NewRow wx wb.heap.size 49 m (.slice none 0 0) vL gL → NewRow wx wb.heap.size 21 (m * 8) (.int .i32 0) vW gW → gL ≠ gW → wpAny Yba.prog .any ops Q 5 #[true, true, true, true, true, true, true, true, true, true, true, false, true, true, true, false, true, true, false, false, false] (A13 t0 t4 vL vW undef undef undef m) wx := by
    intro vL vW gL gW wx hn kL kW xLW
    refine wpAny_ready rLW (by simp) ?_
    refine AllReady.cons e11 (fun K hK => ?_) ?_
    · refine step_make g11 (.tmp 15) (.tmp 15) 47 p11 rfl rfl (hO wx) (hK _ _ ?_)
      rw [d11]
      exact LLWO vL vW (.slice (some ⟨wx.heap.size, 0, none⟩) m m) gL gW wx.heap.size (wx.alloc oO) (hn.alloc _) (kL.alloc _) (kW.alloc _) ⟨rfl, hn.size, wO wx⟩ xLW (by have := kL.lt; omega) (by have := kW.lt; omega)
    refine AllReady.cons e15 (fun K hK => ?_) ?_
    · refine step_make g15 (.tmp 19) (.tmp 19) 45 p15 rfl rfl (hA wx) (hK _ _ ?_)
      rw [d15]
      exact LLWA vL vW (.slice (some ⟨wx.heap.size, 0, none⟩) (m * 16) (m * 16)) gL gW wx.heap.size (wx.alloc oA) (hn.alloc _) (kL.alloc _) (kW.alloc _) ⟨rfl, hn.size, wA wx⟩ xLW (by have := kL.lt; omega) (by have := kW.lt; omega)
    refine AllReady.cons e18 (fun K hK => ?_) ?_
    · refine step_make g18 (.tmp 22) (.tmp 22) 47 p18 rfl rfl (hB wx) (hK _ _ ?_)
      rw [d18]
      exact LLWB vL vW (.slice (some ⟨wx.heap.size, 0, none⟩) m m) gL gW wx.heap.size (wx.alloc oB) (hn.alloc _) (kL.alloc _) (kW.alloc _) ⟨rfl, hn.size, wB wx⟩ xLW (by have := kL.lt; omega) (by have := kW.lt; omega)
    exact AllReady.nil
  have LB : ∀ (vB : Value) (gB : Nat) (wx : World), New wb wx → NewRow wx wb.heap.size 5 m (.int .u8 0) vB gB → wpAny Yba.prog .any ops Q 6 #[true, true, true, true, false, true, true, true, false, true, true, false, true, true, true, false, true, true, true, false, false] (A13 t0 t4 undef undef undef undef vB m) wx := by
    intro vB gB wx hn kB
    refine wpAny_ready rB (by simp) ?_
    refine AllReady.cons e4 (fun K hK => ?_) ?_
    · refine step_make g4 (.tmp 8) (.tmp 8) 46 p4 rfl rfl (hL wx) (hK _ _ ?_)
      rw [d4]
      exact LLB (.slice (some ⟨wx.heap.size, 0, none⟩) m m) vB wx.heap.size gB (wx.alloc oL) (hn.alloc _) ⟨rfl, hn.size, wL wx⟩ (kB.alloc _) (by have := kB.lt; omega)
    refine AllReady.cons e8 (fun K hK => ?_) ?_
    · refine step_make g8 (.tmp 12) (.tmp 12) 45 p8 rfl rfl (hW wx) (hK _ _ ?_)
      rw [d8]
      exact LWB (.slice (some ⟨wx.heap.size, 0, none⟩) (m * 8) (m * 8)) vB wx.heap.size gB (wx.alloc oW) (hn.alloc _) ⟨rfl, hn.size, wW wx⟩ (kB.alloc _) (by have := kB.lt; omega)
    refine AllReady.cons e11 (fun K hK => ?_) ?_
    · refine step_make g11 (.tmp 15) (.tmp 15) 47 p11 rfl rfl (hO wx) (hK _ _ ?_)
      rw [d11]
      exact LOB (.slice (some ⟨wx.heap.size, 0, none⟩) m m) vB wx.heap.size gB (wx.alloc oO) (hn.alloc _) ⟨rfl, hn.size, wO wx⟩ (kB.alloc _) (by have := kB.lt; omega)
    refine AllReady.cons e15 (fun K hK => ?_) ?_
    · refine step_make g15 (.tmp 19) (.tmp 19) 45 p15 rfl rfl (hA wx) (hK _ _ ?_)
      rw [d15]
      exact LAB (.slice (some ⟨wx.heap.size, 0, none⟩) (m * 16) (m * 16)) vB wx.heap.size gB (wx.alloc oA) (hn.alloc _) ⟨rfl, hn.size, wA wx⟩ (kB.alloc _) (by have := kB.lt; omega)
    exact AllReady.nil
  have LA : ∀ (vA : Value) (gA : Nat) (wx : World), New wb wx → NewRow wx wb.heap.size 21 (m * 16) (.int .i32 0) vA gA → wpAny Yba.prog .any ops Q 6 #[true, true, true, true, false, true, true, true, false, true, true, false, true, true, true, true, true, true, false, false, false] (A13 t0 t4 undef undef undef vA undef m) wx := by
    intro vA gA wx hn kA
    refine wpAny_ready rA (by simp) ?_
    refine AllReady.cons e4 (fun K hK => ?_) ?_
    · refine step_make g4 (.tmp 8) (.tmp 8) 46 p4 rfl rfl (hL wx) (hK _ _ ?_)
      rw [d4]
      exact LLA (.slice (some ⟨wx.heap.size, 0, none⟩) m m) vA wx.heap.size gA (wx.alloc oL) (hn.alloc _) ⟨rfl, hn.size, wL wx⟩ (kA.alloc _) (by have := kA.lt; omega)
    refine AllReady.cons e8 (fun K hK => ?_) ?_
    · refine step_make g8 (.tmp 12) (.tmp 12) 45 p8 rfl rfl (hW wx) (hK _ _ ?_)
      rw [d8]
      exact LWA (.slice (some ⟨wx.heap.size, 0, none⟩) (m * 8) (m * 8)) vA wx.heap.size gA (wx.alloc oW) (hn.alloc _) ⟨rfl, hn.size, wW wx⟩ (kA.alloc _) (by have := kA.lt; omega)
    refine AllReady.cons e11 (fun K hK => ?_) ?_
    · refine step_make g11 (.tmp 15) (.tmp 15) 47 p11 rfl rfl (hO wx) (hK _ _ ?_)
      rw [d11]
      exact LOA (.slice (some ⟨wx.heap.size, 0, none⟩) m m) vA wx.heap.size gA (wx.alloc oO) (hn.alloc _) ⟨rfl, hn.size, wO wx⟩ (kA.alloc _) (by have := kA.lt; omega)
    refine AllReady.cons e18 (fun K hK => ?_) ?_
    · refine step_make g18 (.tmp 22) (.tmp 22) 47 p18 rfl rfl (hB wx) (hK _ _ ?_)
      rw [d18]
      exact LAB vA (.slice (some ⟨wx.heap.size, 0, none⟩) m m) gA wx.heap.size (wx.alloc oB) (hn.alloc _) (kA.alloc _) ⟨rfl, hn.size, wB wx⟩ (by have := kA.lt; omega)
    exact AllReady.nil
  have LO : ∀ (vO : Value) (gO : Nat) (wx : World), New wb wx → NewRow wx wb.heap.size 5 m (.int .u8 0) vO gO → wpAny Yba.prog .any ops Q 6 #[true, true, true, true, false, true, true, true, false, true, true, true, true, true, true, false, true, true, false, false, false] (A13 t0 t4 undef undef vO undef undef m) wx := by
    intro vO gO wx hn kO
    refine wpAny_ready rO (by simp) ?_
    refine AllReady.cons e4 (fun K hK => ?_) ?_
    · refine step_make g4 (.tmp 8) (.tmp 8) 46 p4 rfl rfl (hL wx) (hK _ _ ?_)
      rw [d4]
      exact LLO (.slice (some ⟨wx.heap.size, 0, none⟩) m m) vO wx.heap.size gO (wx.alloc oL) (hn.alloc _) ⟨rfl, hn.size, wL wx⟩ (kO.alloc _) (by have := kO.lt; omega)
    refine AllReady.cons e8 (fun K hK => ?_) ?_
    · refine step_make g8 (.tmp 12) (.tmp 12) 45 p8 rfl rfl (hW wx) (hK _ _ ?_)
      rw [d8]
      exact LWO (.slice (some ⟨wx.heap.size, 0, none⟩) (m * 8) (m * 8)) vO wx.heap.size gO (wx.alloc oW) (hn.alloc _) ⟨rfl, hn.size, wW wx⟩ (kO.alloc _) (by have := kO.lt; omega)
    refine AllReady.cons e15 (fun K hK => ?_) ?_
    · refine step_make g15 (.tmp 19) (.tmp 19) 45 p15 rfl rfl (hA wx) (hK _ _ ?_)
      rw [d15]
      exact LOA vO (.slice (some ⟨wx.heap.size, 0, none⟩) (m * 16) (m * 16)) gO wx.heap.size (wx.alloc oA) (hn.alloc _) (kO.alloc _) ⟨rfl, hn.size, wA wx⟩ (by have := kO.lt; omega)
    refine AllReady.cons e18 (fun K hK => ?_) ?_
    · refine step_make g18 (.tmp 22) (.tmp 22) 47 p18 rfl rfl (hB wx) (hK _ _ ?_)
      rw [d18]
      exact LOB vO (.slice (some ⟨wx.heap.size, 0, none⟩) m m) gO wx.heap.size (wx.alloc oB) (hn.alloc _) (kO.alloc _) ⟨rfl, hn.size, wB wx⟩ (by have := kO.lt; omega)
    exact AllReady.nil
  have LW : ∀ (vW : Value) (gW : Nat) (wx : World), New wb wx → NewRow wx wb.heap.size 21 (m * 8) (.int .i32 0) vW gW → wpAny Yba.prog .any ops Q 6 #[true, true, true, true, false, true, true, true, true, true, true, false, true, true, true, false, true, true, false, false, false] (A13 t0 t4 undef vW undef undef undef m) wx := by
    intro vW gW wx hn kW
    refine wpAny_ready rW (by simp) ?_
    refine AllReady.cons e4 (fun K hK => ?_) ?_
    · refine step_make g4 (.tmp 8) (.tmp 8) 46 p4 rfl rfl (hL wx) (hK _ _ ?_)
      rw [d4]
      exact LLW (.slice (some ⟨wx.heap.size, 0, none⟩) m m) vW wx.heap.size gW (wx.alloc oL) (hn.alloc _) ⟨rfl, hn.size, wL wx⟩ (kW.alloc _) (by have := kW.lt; omega)
    refine AllReady.cons e11 (fun K hK => ?_) ?_
    · refine step_make g11 (.tmp 15) (.tmp 15) 47 p11 rfl rfl (hO wx) (hK _ _ ?_)
      rw [d11]
      exact LWO vW (.slice (some ⟨wx.heap.size, 0, none⟩) m m) gW wx.heap.size (wx.alloc oO) (hn.alloc _) (kW.alloc _) ⟨rfl, hn.size, wO wx⟩ (by have := kW.lt; omega)
    refine AllReady.cons e15 (fun K hK => ?_) ?_
    · refine step_make g15 (.tmp 19) (.tmp 19) 45 p15 rfl rfl (hA wx) (hK _ _ ?_)
      rw [d15]
      exact LWA vW (.slice (some ⟨wx.heap.size, 0, none⟩) (m * 16) (m * 16)) gW wx.heap.size (wx.alloc oA) (hn.alloc _) (kW.alloc _) ⟨rfl, hn.size, wA wx⟩ (by have := kW.lt; omega)
    refine AllReady.cons e18 (fun K hK => ?_) ?_
    · refine step_make g18 (.tmp 22) (.tmp 22) 47 p18 rfl rfl (hB wx) (hK _ _ ?_)
      rw [d18]
      exact LWB vW (.slice (some ⟨wx.heap.size, 0, none⟩) m m) gW wx.heap.size (wx.alloc oB) (hn.alloc _) (kW.alloc _) ⟨rfl, hn.size, wB wx⟩ (by have := kW.lt; omega)
    exact AllReady.nil
  have LL : ∀ (vL : Value) (gL : Nat) (wx : World), New wb wx → NewRow wx wb.heap.size 49 m (.slice none 0 0) vL gL → wpAny Yba.prog .any ops Q 6 #[true, true, true, true, true, true, true, true, false, true, true, false, true, true, true, false, true, true, false, false, false] (A13 t0 t4 vL undef undef undef undef m) wx := by
    intro vL gL wx hn kL
    refine wpAny_ready rL (by simp) ?_
    refine AllReady.cons e8 (fun K hK => ?_) ?_
    · refine step_make g8 (.tmp 12) (.tmp 12) 45 p8 rfl rfl (hW wx) (hK _ _ ?_)
      rw [d8]
      exact LLW vL (.slice (some ⟨wx.heap.size, 0, none⟩) (m * 8) (m * 8)) gL wx.heap.size (wx.alloc oW) (hn.alloc _) (kL.alloc _) ⟨rfl, hn.size, wW wx⟩ (by have := kL.lt; omega)
    refine AllReady.cons e11 (fun K hK => ?_) ?_
    · refine step_make g11 (.tmp 15) (.tmp 15) 47 p11 rfl rfl (hO wx) (hK _ _ ?_)
      rw [d11]
      exact LLO vL (.slice (some ⟨wx.heap.size, 0, none⟩) m m) gL wx.heap.size (wx.alloc oO) (hn.alloc _) (kL.alloc _) ⟨rfl, hn.size, wO wx⟩ (by have := kL.lt; omega)
    refine AllReady.cons e15 (fun K hK => ?_) ?_
    · refine step_make g15 (.tmp 19) (.tmp 19) 45 p15 rfl rfl (hA wx) (hK _ _ ?_)
      rw [d15]
      exact LLA vL (.slice (some ⟨wx.heap.size, 0, none⟩) (m * 16) (m * 16)) gL wx.heap.size (wx.alloc oA) (hn.alloc _) (kL.alloc _) ⟨rfl, hn.size, wA wx⟩ (by have := kL.lt; omega)
    refine AllReady.cons e18 (fun K hK => ?_) ?_
    · refine step_make g18 (.tmp 22) (.tmp 22) 47 p18 rfl rfl (hB wx) (hK _ _ ?_)
      rw [d18]
      exact LLB vL (.slice (some ⟨wx.heap.size, 0, none⟩) m m) gL wx.heap.size (wx.alloc oB) (hn.alloc _) (kL.alloc _) ⟨rfl, hn.size, wB wx⟩ (by have := kL.lt; omega)
    exact AllReady.nil
  have LN : ∀ (wx : World), New wb wx → wpAny Yba.prog .any ops Q 7 #[true, true, true, true, false, true, true, true, false, true, true, false, true, true, true, false, true, true, false, false, false] (A13 t0 t4 undef undef undef undef undef m) wx := by
    intro  wx hn
    refine wpAny_ready rN (by simp) ?_
    refine AllReady.cons e4 (fun K hK => ?_) ?_
    · refine step_make g4 (.tmp 8) (.tmp 8) 46 p4 rfl rfl (hL wx) (hK _ _ ?_)
      rw [d4]
      exact LL (.slice (some ⟨wx.heap.size, 0, none⟩) m m) wx.heap.size (wx.alloc oL) (hn.alloc _) ⟨rfl, hn.size, wL wx⟩
    refine AllReady.cons e8 (fun K hK => ?_) ?_
    · refine step_make g8 (.tmp 12) (.tmp 12) 45 p8 rfl rfl (hW wx) (hK _ _ ?_)
      rw [d8]
      exact LW (.slice (some ⟨wx.heap.size, 0, none⟩) (m * 8) (m * 8)) wx.heap.size (wx.alloc oW) (hn.alloc _) ⟨rfl, hn.size, wW wx⟩
    refine AllReady.cons e11 (fun K hK => ?_) ?_
    · refine step_make g11 (.tmp 15) (.tmp 15) 47 p11 rfl rfl (hO wx) (hK _ _ ?_)
      rw [d11]
      exact LO (.slice (some ⟨wx.heap.size, 0, none⟩) m m) wx.heap.size (wx.alloc oO) (hn.alloc _) ⟨rfl, hn.size, wO wx⟩
    refine AllReady.cons e15 (fun K hK => ?_) ?_
    · refine step_make g15 (.tmp 19) (.tmp 19) 45 p15 rfl rfl (hA wx) (hK _ _ ?_)
      rw [d15]
      exact LA (.slice (some ⟨wx.heap.size, 0, none⟩) (m * 16) (m * 16)) wx.heap.size (wx.alloc oA) (hn.alloc _) ⟨rfl, hn.size, wA wx⟩
    refine AllReady.cons e18 (fun K hK => ?_) ?_
    · refine step_make g18 (.tmp 22) (.tmp 22) 47 p18 rfl rfl (hB wx) (hK _ _ ?_)
      rw [d18]
      exact LB (.slice (some ⟨wx.heap.size, 0, none⟩) m m) wx.heap.size (wx.alloc oB) (hn.alloc _) ⟨rfl, hn.size, wB wx⟩
    exact AllReady.nil
  exact LN wb (Chg.refl _ _)
theorem yields_move {ops : Array Oper} {o : Oper} {a : Act} {x : Operand} {v : Value} (hg : o.guard = none) (hop : o.op = Op.move x) (hv : a.eval x = v) : Yields Yba.prog ops o v a := by
  refine Or.inl ⟨by simp [Region.wanted, hg], fun w => ?_⟩
  unfold execOp
  simp only [hop, hv]
  rfl
theorem yields_bin {ops : Array Oper} {o : Oper} {a : Act} {op : BinOp} {t t' : TypeId} {x y : Operand} {u z v : Value} (hg : o.guard = none) (hop : o.op = Op.binOp op t x y t') (hx : a.eval x = u) (hy : a.eval y = z) (hr : ∀ w, (binOp op t u z).run Yba.prog w = .ok v w) (hq : ∀ w, (eqGuard op t x y u z).run Yba.prog w = .ok () w) : Yields Yba.prog ops o v a := by
  refine Or.inl ⟨by simp [Region.wanted, hg], fun w => ?_⟩
  unfold execOp
  simp only [hop, hx, hy, Sem.run_bind, hr, hq, Result.andThen_ok]
  rfl
theorem results_cell {fn : Func} {p : Tmp} {ty : TypeId} (h : fn.results = #[.cell p ty]) (tmps : Array Value) (P : Program) (w : World) :
    (results fn tmps).run P w = ((asAddr (tmps.getD p undef)).run P w).andThen fun a w₁ => (loadVar ty a).run P w₁ := by
  simp only [results, h]
  simp [Sem.run_bind, Result.andThen]
/-- what newLeastTree hands back -/
def Made13 (w : World) (GN n m : Nat) (e : Ending) (w' : World) : Prop :=
  ∃ (gL gW gO gA gB : Nat), e = .returned (.agg #[.int .i64 ((m : Int) + 1), .slice none 0 0, .slice none 0 0, .slice (some ⟨GN, 0, none⟩) n n, .slice (some ⟨gL, 0, none⟩) m m, .slice (some ⟨gW, 0, none⟩) (m * 8) (m * 8), .slice (some ⟨gO, 0, none⟩) m m, .slice (some ⟨gA, 0, none⟩) (m * 16) (m * 16), .slice (some ⟨gB, 0, none⟩) m m, .slice none 0 0, .slice none 0 0, .bool false]) ∧ New w w' ∧
    w.heap.size ≤ gL ∧ w.heap.size ≤ gW ∧ w.heap.size ≤ gO ∧ gL ≠ gW ∧ gL ≠ gO ∧ gW ≠ gO ∧ RowIs w' gL 49 m (fun _ => .slice none 0 0) ∧ RowIs w' gW 21 (m * 8) (fun _ => .int .i32 0) ∧ RowIs w' gO 5 m (fun _ => .int .u8 0)
theorem fin13 {w wx wf : World} {GN n m gL gW gO gA gB : Nat} {e : Ending} (rowL : RowIs wx gL 49 m (fun _ => .slice none 0 0)) (rowW : RowIs wx gW 21 (m * 8) (fun _ => .int .i32 0)) (rowO : RowIs wx gO 5 m (fun _ => .int .u8 0)) (hn : New w wx) (bL : w.heap.size + 1 ≤ gL) (bW : w.heap.size + 1 ≤ gW) (bO : w.heap.size + 1 ≤ gO) (x1 : gL ≠ gW) (x2 : gL ≠ gO) (x3 : gW ≠ gO)
    (he : e = .returned (.agg #[.int .i64 ((m : Int) + 1), .slice none 0 0, .slice none 0 0, .slice (some ⟨GN, 0, none⟩) n n, .slice (some ⟨gL, 0, none⟩) m m, .slice (some ⟨gW, 0, none⟩) (m * 8) (m * 8), .slice (some ⟨gO, 0, none⟩) m m, .slice (some ⟨gA, 0, none⟩) (m * 16) (m * 16), .slice (some ⟨gB, 0, none⟩) m m, .slice none 0 0, .slice none 0 0, .bool false])) (hc : Chg (fun k => k = w.heap.size) wx wf) : Made13 w GN n m e wf :=
  ⟨gL, gW, gO, gA, gB, he, hn.of_chg hc (fun b e => by omega), by omega, by omega, by omega, x1, x2, x3, rowL.chg hc (by omega), rowW.chg hc (by omega), rowO.chg hc (by omega)⟩
set_option maxHeartbeats 4000000 in
theorem newLeastTree_any (GN n m : Nat) (w : World) (hm : m ≤ 256) :
    Calls Yba.prog 13 #[.slice (some ⟨GN, 0, none⟩) n n, .int .i64 ((m : Int) + 1)] w (Made13 w GN n m) := by
  have s1 : ∀ wz, (binOp .sub 3 (.int .i64 ((m : Int) + 1)) (.int .i64 1)).run Yba.prog wz = .ok (.int .i64 (m : Int)) wz := fun wz => by
    have e : (m : Int) + 1 - 1 = (m : Int) := by omega
    simp [go_sem, e]
    simp [IntKind.wrap, IntKind.signed, IntKind.bits]
    omega
  have s2 : ∀ wz, (binOp .mul 3 (.int .i64 (m : Int)) (.int .i64 8)).run Yba.prog wz = .ok (.int .i64 ((m * 8 : Nat) : Int)) wz := fun wz => by
    simp [go_sem]
    simp [IntKind.wrap, IntKind.signed, IntKind.bits]
    omega
  have s3 : ∀ wz, (binOp .mul 3 (.int .i64 (m : Int)) (.int .i64 16)).run Yba.prog wz = .ok (.int .i64 ((m * 16 : Nat) : Int)) wz := fun wz => by
    simp [go_sem]
    simp [IntKind.wrap, IntKind.signed, IntKind.bits]
    omega
  go_enter Yba.func13, Yba.ntmps13
  go_upto_region 1 with fail
  refine wp_region_any (by kernel_rfl) ?_
  change wpAny _ _ _ _ _ _ _ (World.drew _)
  refine wpAny_take (i := 0) (v := (.int .i64 ((m : Int) + 1))) rfl (by kernel_rfl) (by kernel_rfl) (by kernel_rfl) (fun _ _ _ h => h) (yields_move rfl rfl rfl) ?_
  show wpAny Yba.prog .any _ _ 20 #[true, false, false, false, false, false, false, false, false, false, false, false, false, false, false, false, false, false, false, false, false] { tmps := #[(.slice (some ⟨GN, 0, none⟩) n n), (.int .i64 ((m : Int) + 1)), undef, undef, (.pointer (some ⟨w.heap.size, 0, none⟩)), (.int .i64 ((m : Int) + 1)), undef, undef, undef, undef, undef, undef, undef, undef, undef, undef, undef, undef, undef, undef, undef, undef, undef, undef, undef], defers := [] } _
  refine wpAny_take (i := 1) (v := (.slice (some ⟨GN, 0, none⟩) n n)) rfl (by kernel_rfl) (by kernel_rfl) (by kernel_rfl) (fun _ _ _ h => h) (yields_move rfl rfl rfl) ?_
  show wpAny Yba.prog .any _ _ 19 #[true, true, false, false, false, false, false, false, false, false, false, false, false, false, false, false, false, false, false, false, false] { tmps := #[(.slice (some ⟨GN, 0, none⟩) n n), (.int .i64 ((m : Int) + 1)), undef, undef, (.pointer (some ⟨w.heap.size, 0, none⟩)), (.int .i64 ((m : Int) + 1)), (.slice (some ⟨GN, 0, none⟩) n n), undef, undef, undef, undef, undef, undef, undef, undef, undef, undef, undef, undef, undef, undef, undef, undef, undef, undef], defers := [] } _
  refine wpAny_take (i := 2) (v := (.int .i64 ((m : Int) + 1))) rfl (by kernel_rfl) (by kernel_rfl) (by kernel_rfl) (fun _ _ _ h => h) (yields_move rfl rfl rfl) ?_
  show wpAny Yba.prog .any _ _ 18 #[true, true, true, false, false, false, false, false, false, false, false, false, false, false, false, false, false, false, false, false, false] { tmps := #[(.slice (some ⟨GN, 0, none⟩) n n), (.int .i64 ((m : Int) + 1)), undef, undef, (.pointer (some ⟨w.heap.size, 0, none⟩)), (.int .i64 ((m : Int) + 1)), (.slice (some ⟨GN, 0, none⟩) n n), (.int .i64 ((m : Int) + 1)), undef, undef, undef, undef, undef, undef, undef, undef, undef, undef, undef, undef, undef, undef, undef, undef, undef], defers := [] } _
  refine wpAny_take (i := 3) (v := (.int .i64 (m : Int))) rfl (by kernel_rfl) (by kernel_rfl) (by kernel_rfl) (fun _ _ _ h => h) (yields_bin rfl rfl rfl rfl s1 (fun _ => rfl)) ?_
  show wpAny Yba.prog .any _ _ 17 #[true, true, true, true, false, false, false, false, false, false, false, false, false, false, false, false, false, false, false, false, false] { tmps := #[(.slice (some ⟨GN, 0, none⟩) n n), (.int .i64 ((m : Int) + 1)), undef, undef, (.pointer (some ⟨w.heap.size, 0, none⟩)), (.int .i64 ((m : Int) + 1)), (.slice (some ⟨GN, 0, none⟩) n n), (.int .i64 ((m : Int) + 1)), (.int .i64 (m : Int)), undef, undef, undef, undef, undef, undef, undef, undef, undef, undef, undef, undef, undef, undef, undef, undef], defers := [] } _
  refine wpAny_take (i := 5) (v := (.int .i64 ((m : Int) + 1))) rfl (by kernel_rfl) (by kernel_rfl) (by kernel_rfl) (fun _ _ _ h => h) (yields_move rfl rfl rfl) ?_
  show wpAny Yba.prog .any _ _ 16 #[true, true, true, true, false, true, false, false, false, false, false, false, false, false, false, false, false, false, false, false, false] { tmps := #[(.slice (some ⟨GN, 0, none⟩) n n), (.int .i64 ((m : Int) + 1)), undef, undef, (.pointer (some ⟨w.heap.size, 0, none⟩)), (.int .i64 ((m : Int) + 1)), (.slice (some ⟨GN, 0, none⟩) n n), (.int .i64 ((m : Int) + 1)), (.int .i64 (m : Int)), undef, (.int .i64 ((m : Int) + 1)), undef, undef, undef, undef, undef, undef, undef, undef, undef, undef, undef, undef, undef, undef], defers := [] } _
  refine wpAny_take (i := 6) (v := (.int .i64 (m : Int))) rfl (by kernel_rfl) (by kernel_rfl) (by kernel_rfl) (fun _ _ _ h => h) (yields_bin rfl rfl rfl rfl s1 (fun _ => rfl)) ?_
  show wpAny Yba.prog .any _ _ 15 #[true, true, true, true, false, true, true, false, false, false, false, false, false, false, false, false, false, false, false, false, false] { tmps := #[(.slice (some ⟨GN, 0, none⟩) n n), (.int .i64 ((m : Int) + 1)), undef, undef, (.pointer (some ⟨w.heap.size, 0, none⟩)), (.int .i64 ((m : Int) + 1)), (.slice (some ⟨GN, 0, none⟩) n n), (.int .i64 ((m : Int) + 1)), (.int .i64 (m : Int)), undef, (.int .i64 ((m : Int) + 1)), (.int .i64 (m : Int)), undef, undef, undef, undef, undef, undef, undef, undef, undef, undef, undef, undef, undef], defers := [] } _
  refine wpAny_take (i := 7) (v := (.int .i64 ((m * 8 : Nat) : Int))) rfl (by kernel_rfl) (by kernel_rfl) (by kernel_rfl) (fun _ _ _ h => h) (yields_bin rfl rfl rfl rfl s2 (fun _ => rfl)) ?_
  show wpAny Yba.prog .any _ _ 14 #[true, true, true, true, false, true, true, true, false, false, false, false, false, false, false, false, false, false, false, false, false] { tmps := #[(.slice (some ⟨GN, 0, none⟩) n n), (.int .i64 ((m : Int) + 1)), undef, undef, (.pointer (some ⟨w.heap.size, 0, none⟩)), (.int .i64 ((m : Int) + 1)), (.slice (some ⟨GN, 0, none⟩) n n), (.int .i64 ((m : Int) + 1)), (.int .i64 (m : Int)), undef, (.int .i64 ((m : Int) + 1)), (.int .i64 (m : Int)), (.int .i64 ((m * 8 : Nat) : Int)), undef, undef, undef, undef, undef, undef, undef, undef, undef, undef, undef, undef], defers := [] } _
  refine wpAny_take (i := 9) (v := (.int .i64 ((m : Int) + 1))) rfl (by kernel_rfl) (by kernel_rfl) (by kernel_rfl) (fun _ _ _ h => h) (yields_move rfl rfl rfl) ?_
  show wpAny Yba.prog .any _ _ 13 #[true, true, true, true, false, true, true, true, false, true, false, false, false, false, false, false, false, false, false, false, false] { tmps := #[(.slice (some ⟨GN, 0, none⟩) n n), (.int .i64 ((m : Int) + 1)), undef, undef, (.pointer (some ⟨w.heap.size, 0, none⟩)), (.int .i64 ((m : Int) + 1)), (.slice (some ⟨GN, 0, none⟩) n n), (.int .i64 ((m : Int) + 1)), (.int .i64 (m : Int)), undef, (.int .i64 ((m : Int) + 1)), (.int .i64 (m : Int)), (.int .i64 ((m * 8 : Nat) : Int)), undef, (.int .i64 ((m : Int) + 1)), undef, undef, undef, undef, undef, undef, undef, undef, undef, undef], defers := [] } _
  refine wpAny_take (i := 10) (v := (.int .i64 (m : Int))) rfl (by kernel_rfl) (by kernel_rfl) (by kernel_rfl) (fun _ _ _ h => h) (yields_bin rfl rfl rfl rfl s1 (fun _ => rfl)) ?_
  show wpAny Yba.prog .any _ _ 12 #[true, true, true, true, false, true, true, true, false, true, true, false, false, false, false, false, false, false, false, false, false] { tmps := #[(.slice (some ⟨GN, 0, none⟩) n n), (.int .i64 ((m : Int) + 1)), undef, undef, (.pointer (some ⟨w.heap.size, 0, none⟩)), (.int .i64 ((m : Int) + 1)), (.slice (some ⟨GN, 0, none⟩) n n), (.int .i64 ((m : Int) + 1)), (.int .i64 (m : Int)), undef, (.int .i64 ((m : Int) + 1)), (.int .i64 (m : Int)), (.int .i64 ((m * 8 : Nat) : Int)), undef, (.int .i64 ((m : Int) + 1)), (.int .i64 (m : Int)), undef, undef, undef, undef, undef, undef, undef, undef, undef], defers := [] } _
  refine wpAny_take (i := 12) (v := (.int .i64 ((m : Int) + 1))) rfl (by kernel_rfl) (by kernel_rfl) (by kernel_rfl) (fun _ _ _ h => h) (yields_move rfl rfl rfl) ?_
  show wpAny Yba.prog .any _ _ 11 #[true, true, true, true, false, true, true, true, false, true, true, false, true, false, false, false, false, false, false, false, false] { tmps := #[(.slice (some ⟨GN, 0, none⟩) n n), (.int .i64 ((m : Int) + 1)), undef, undef, (.pointer (some ⟨w.heap.size, 0, none⟩)), (.int .i64 ((m : Int) + 1)), (.slice (some ⟨GN, 0, none⟩) n n), (.int .i64 ((m : Int) + 1)), (.int .i64 (m : Int)), undef, (.int .i64 ((m : Int) + 1)), (.int .i64 (m : Int)), (.int .i64 ((m * 8 : Nat) : Int)), undef, (.int .i64 ((m : Int) + 1)), (.int .i64 (m : Int)), undef, (.int .i64 ((m : Int) + 1)), undef, undef, undef, undef, undef, undef, undef], defers := [] } _
  refine wpAny_take (i := 13) (v := (.int .i64 (m : Int))) rfl (by kernel_rfl) (by kernel_rfl) (by kernel_rfl) (fun _ _ _ h => h) (yields_bin rfl rfl rfl rfl s1 (fun _ => rfl)) ?_
  show wpAny Yba.prog .any _ _ 10 #[true, true, true, true, false, true, true, true, false, true, true, false, true, true, false, false, false, false, false, false, false] { tmps := #[(.slice (some ⟨GN, 0, none⟩) n n), (.int .i64 ((m : Int) + 1)), undef, undef, (.pointer (some ⟨w.heap.size, 0, none⟩)), (.int .i64 ((m : Int) + 1)), (.slice (some ⟨GN, 0, none⟩) n n), (.int .i64 ((m : Int) + 1)), (.int .i64 (m : Int)), undef, (.int .i64 ((m : Int) + 1)), (.int .i64 (m : Int)), (.int .i64 ((m * 8 : Nat) : Int)), undef, (.int .i64 ((m : Int) + 1)), (.int .i64 (m : Int)), undef, (.int .i64 ((m : Int) + 1)), (.int .i64 (m : Int)), undef, undef, undef, undef, undef, undef], defers := [] } _
  refine wpAny_take (i := 14) (v := (.int .i64 ((m * 16 : Nat) : Int))) rfl (by kernel_rfl) (by kernel_rfl) (by kernel_rfl) (fun _ _ _ h => h) (yields_bin rfl rfl rfl rfl s3 (fun _ => rfl)) ?_
  show wpAny Yba.prog .any _ _ 9 #[true, true, true, true, false, true, true, true, false, true, true, false, true, true, true, false, false, false, false, false, false] { tmps := #[(.slice (some ⟨GN, 0, none⟩) n n), (.int .i64 ((m : Int) + 1)), undef, undef, (.pointer (some ⟨w.heap.size, 0, none⟩)), (.int .i64 ((m : Int) + 1)), (.slice (some ⟨GN, 0, none⟩) n n), (.int .i64 ((m : Int) + 1)), (.int .i64 (m : Int)), undef, (.int .i64 ((m : Int) + 1)), (.int .i64 (m : Int)), (.int .i64 ((m * 8 : Nat) : Int)), undef, (.int .i64 ((m : Int) + 1)), (.int .i64 (m : Int)), undef, (.int .i64 ((m : Int) + 1)), (.int .i64 (m : Int)), (.int .i64 ((m * 16 : Nat) : Int)), undef, undef, undef, undef, undef], defers := [] } _
  refine wpAny_take (i := 16) (v := (.int .i64 ((m : Int) + 1))) rfl (by kernel_rfl) (by kernel_rfl) (by kernel_rfl) (fun _ _ _ h => h) (yields_move rfl rfl rfl) ?_
  show wpAny Yba.prog .any _ _ 8 #[true, true, true, true, false, true, true, true, false, true, true, false, true, true, true, false, true, false, false, false, false] { tmps := #[(.slice (some ⟨GN, 0, none⟩) n n), (.int .i64 ((m : Int) + 1)), undef, undef, (.pointer (some ⟨w.heap.size, 0, none⟩)), (.int .i64 ((m : Int) + 1)), (.slice (some ⟨GN, 0, none⟩) n n), (.int .i64 ((m : Int) + 1)), (.int .i64 (m : Int)), undef, (.int .i64 ((m : Int) + 1)), (.int .i64 (m : Int)), (.int .i64 ((m * 8 : Nat) : Int)), undef, (.int .i64 ((m : Int) + 1)), (.int .i64 (m : Int)), undef, (.int .i64 ((m : Int) + 1)), (.int .i64 (m : Int)), (.int .i64 ((m * 16 : Nat) : Int)), undef, (.int .i64 ((m : Int) + 1)), undef, undef, undef], defers := [] } _
  refine wpAny_take (i := 17) (v := (.int .i64 (m : Int))) rfl (by kernel_rfl) (by kernel_rfl) (by kernel_rfl) (fun _ _ _ h => h) (yields_bin rfl rfl rfl rfl s1 (fun _ => rfl)) ?_
  show wpAny Yba.prog .any _ _ 7 #[true, true, true, true, false, true, true, true, false, true, true, false, true, true, true, false, true, true, false, false, false] { tmps := #[(.slice (some ⟨GN, 0, none⟩) n n), (.int .i64 ((m : Int) + 1)), undef, undef, (.pointer (some ⟨w.heap.size, 0, none⟩)), (.int .i64 ((m : Int) + 1)), (.slice (some ⟨GN, 0, none⟩) n n), (.int .i64 ((m : Int) + 1)), (.int .i64 (m : Int)), undef, (.int .i64 ((m : Int) + 1)), (.int .i64 (m : Int)), (.int .i64 ((m * 8 : Nat) : Int)), undef, (.int .i64 ((m : Int) + 1)), (.int .i64 (m : Int)), undef, (.int .i64 ((m : Int) + 1)), (.int .i64 (m : Int)), (.int .i64 ((m * 16 : Nat) : Int)), undef, (.int .i64 ((m : Int) + 1)), (.int .i64 (m : Int)), undef, undef], defers := [] } _
  refine five13 (t0 := .slice (some ⟨GN, 0, none⟩) n n) (t4 := .pointer (some ⟨w.heap.size, 0, none⟩)) hm rfl rfl rfl rfl rfl rfl rfl rfl rfl rfl rfl rfl rfl rfl rfl rfl rfl rfl rfl rfl (by kernel_rfl) (by kernel_rfl) (by kernel_rfl) (by kernel_rfl) (by kernel_rfl) (by kernel_rfl) (by kernel_rfl) (by kernel_rfl) (by kernel_rfl) (by kernel_rfl) (by kernel_rfl) (by kernel_rfl) (by kernel_rfl) (by kernel_rfl) (by kernel_rfl) (by kernel_rfl) (by kernel_rfl) (by kernel_rfl) (by kernel_rfl) (by kernel_rfl) (by kernel_rfl) (by kernel_rfl) (by kernel_rfl) (by kernel_rfl) (by kernel_rfl) (by kernel_rfl) (by kernel_rfl) (by kernel_rfl) (by kernel_rfl) (by kernel_rfl) (by kernel_rfl) ?_
  intro vL vW vO vA vB gL gW gO gA gB wx hn kL kW kO kA kB xLW xLO xLA xLB xWO xWA xWB xOA xOB xAB
  obtain ⟨rfl, bL, rowL⟩ := kL
  obtain ⟨rfl, bW, rowW⟩ := kW
  obtain ⟨rfl, bO, rowO⟩ := kO
  obtain ⟨rfl, bA, rowA⟩ := kA
  obtain ⟨rfl, bB, rowB⟩ := kB
  unfold A13
  refine wpAny_ready (rs := [19]) (by kernel_rfl) (by simp) ?_
  refine AllReady.cons (o := { dst := some 24, op := Op.build 51 #[(0, Operand.tmp 5), (3, Operand.tmp 6), (4, Operand.tmp 9), (5, Operand.tmp 13), (6, Operand.tmp 16), (7, Operand.tmp 20), (8, Operand.tmp 23)], type := 51, pos := "leastindex.go:178", after := #[{ on := 0, ground := Ground.data }, { on := 1, ground := Ground.data }, { on := 4, ground := Ground.data }, { on := 8, ground := Ground.data }, { on := 11, ground := Ground.data }, { on := 15, ground := Ground.data }, { on := 18, ground := Ground.data }], guard := none }) rfl (fun K hK => ?_) AllReady.nil
  go_simp
  refine hK _ _ ?_
  obtain ⟨f, hf⟩ : ∃ f, RowIs wx w.heap.size 51 12 f := ⟨_, (RowIs.made w #[.int .i64 0, .slice none 0 0, .slice none 0 0, .slice none 0 0, .slice none 0 0, .slice none 0 0, .slice none 0 0, .slice none 0 0, .slice none 0 0, .slice none 0 0, .slice none 0 0, .bool false] 51).chg hn (fun h => h)⟩
  have c0 := hf.cell (i := 0) (by decide)
  have z0 := hf.frozen 0
  have c1 := hf.cell (i := 1) (by decide)
  have z1 := hf.frozen 1
  have c2 := hf.cell (i := 2) (by decide)
  have z2 := hf.frozen 2
  have c3 := hf.cell (i := 3) (by decide)
  have z3 := hf.frozen 3
  have c4 := hf.cell (i := 4) (by decide)
  have z4 := hf.frozen 4
  have c5 := hf.cell (i := 5) (by decide)
  have z5 := hf.frozen 5
  have c6 := hf.cell (i := 6) (by decide)
  have z6 := hf.frozen 6
  have c7 := hf.cell (i := 7) (by decide)
  have z7 := hf.frozen 7
  have c8 := hf.cell (i := 8) (by decide)
  have z8 := hf.frozen 8
  have c9 := hf.cell (i := 9) (by decide)
  have z9 := hf.frozen 9
  have c10 := hf.cell (i := 10) (by decide)
  have z10 := hf.frozen 10
  have c11 := hf.cell (i := 11) (by decide)
  have z11 := hf.frozen 11
  refine wpAny_ready (rs := [20]) (by kernel_rfl) (by simp) ?_
  refine AllReady.cons (o := { dst := none, op := Op.store 51 (Operand.tmp 4) (Operand.tmp 24), type := 0, pos := "leastindex.go:178", after := #[{ on := 19, ground := Ground.data }, { on := 0, ground := Ground.phase }, { on := 1, ground := Ground.phase }, { on := 2, ground := Ground.phase }, { on := 3, ground := Ground.phase }, { on := 4, ground := Ground.phase }, { on := 5, ground := Ground.phase }, { on := 6, ground := Ground.phase }, { on := 7, ground := Ground.phase }, { on := 8, ground := Ground.phase }, { on := 9, ground := Ground.phase }, { on := 10, ground := Ground.phase }, { on := 11, ground := Ground.phase }, { on := 12, ground := Ground.phase }, { on := 13, ground := Ground.phase }, { on := 14, ground := Ground.phase }, { on := 15, ground := Ground.phase }, { on := 16, ground := Ground.phase }, { on := 17, ground := Ground.phase }, { on := 18, ground := Ground.phase }, { on := 19, ground := Ground.phase }], guard := none }) rfl (fun K hK => ?_) AllReady.nil
  go_simp
  refine hK _ _ ?_
  refine wpAny_done (by kernel_rfl) ?_ _
  go_wp2
  have hsz : (w.alloc (.cells #[.int .i64 0, .slice none 0 0, .slice none 0 0, .slice none 0 0, .slice none 0 0, .slice none 0 0, .slice none 0 0, .slice none 0 0, .slice none 0 0, .slice none 0 0, .slice none 0 0, .bool false] 51)).heap.size = w.heap.size + 1 := by simp
  have bL' : w.heap.size + 1 ≤ gL := by rw [← hsz]; exact bL
  have bW' : w.heap.size + 1 ≤ gW := by rw [← hsz]; exact bW
  have bO' : w.heap.size + 1 ≤ gO := by rw [← hsz]; exact bO
  have hnw : New w wx := ((Chg.refl (fun _ => False) w).alloc _).drew.new hn
  refine bodyPost_ret (v := (.agg #[.int .i64 ((m : Int) + 1), .slice none 0 0, .slice none 0 0, .slice (some ⟨GN, 0, none⟩) n n, .slice (some ⟨gL, 0, none⟩) m m, .slice (some ⟨gW, 0, none⟩) (m * 8) (m * 8), .slice (some ⟨gO, 0, none⟩) m m, .slice (some ⟨gA, 0, none⟩) (m * 16) (m * 16), .slice (some ⟨gB, 0, none⟩) m m, .slice none 0 0, .slice none 0 0, .bool false])) ?_ rfl ?_
  · rw [results_cell rfl]
    go_simp
  · refine fin13 (wx := wx) rowL rowW rowO hnw bL' bW' bO' xLW xLO xWO rfl ?_
    iterate 12 refine Chg.set (D := fun k => k = w.heap.size) ?_ (fun _ => rfl) _
    exact Chg.refl _ _
end Go.Proofs.Ybulkbtdo.U
