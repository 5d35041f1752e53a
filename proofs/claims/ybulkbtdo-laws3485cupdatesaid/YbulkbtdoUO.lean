/-
  newIndexSet.
-/
import Derived.Test.YbulkbtdoUN
import Derived.Deep.RegionLaw
namespace Go.Proofs.Ybulkbtdo.U
open Go.RowKit
set_option maxRecDepth 100000
theorem info62 : ∃ i z, Yba.prog.info? 62 = some i ∧ i.zero = some z ∧ i.size = 1 ∧ i.bytes = 24 ∧ z.cells.size = 1 := by
  have h : (Yba.prog.info? 62).map (fun i => (i.size, i.bytes, i.zero.map fun z => z.cells.size)) = some (1, 24, some 1) := by kernel_rfl
  cases e : Yba.prog.info? 62 with
  | none => rw [e] at h; cases h
  | some i =>
    rw [e] at h
    simp at h
    obtain ⟨h1, h2, z, h3, h4⟩ := h
    exact ⟨i, z, rfl, h3, h1, h2, h4⟩
/-- the levels -/
def OwnL (w : World) (B : Nat) (v : Value) (K : List Value) : Prop := w.ownsRow B 62 1 v K.length K
theorem pushL {w0 w : World} {B : Nat} {v x : Value} {K : List Value} (h : OwnL w B v K) (hn : New w0 w) (h0 : w0.heap.size ≤ B) (hB : B ≤ w.heap.size) (h1 : x.oneCell' = true) (hl : K.length ≤ 100) :
    ∃ v' w', (Builtin.append_ #[52, 52] 52 #[v, .slice (some ⟨w.heap.size, 0, none⟩) 1 1]).run Yba.prog (w.alloc (.cells #[x] 62)) = .ok v' w' ∧ OwnL w' B v' (K ++ [x]) ∧ New w0 w' ∧ Chg (fun k => v.ownBlock = some k) (w.alloc (.cells #[x] 62)) w' ∧ (v'.ownBlock = v.ownBlock ∨ v'.ownBlock = some (w.heap.size + 1)) := by
  obtain ⟨inf, z, hi, hz, hs, hby, hzs⟩ := info62
  have ha : New w (w.alloc (.cells #[x] 62)) := (Chg.refl _ w).alloc _
  have ho : OwnL (w.alloc (.cells #[x] 62)) B v K := World.ownsRow.alloc h _
  obtain ⟨v', w', hr, ho', hg, _, hbl⟩ := run_append_own_at (P := Yba.prog) (w.alloc (.cells #[x] 62)) B 52 52 62 inf z 1 24 Yba.underlying52 hi hz hs hby hzs (by decide) v K.length _ ho ⟨w.heap.size, 0, none⟩ 1 1 [x] rfl (cell_one_new w x 62) (fun u hu => by simp at hu; subst hu; exact h1) (by unfold maxLen; omega) (by omega) (Nat.le_trans hB ha.size)
  have hch := Chg.of_grown hg
  refine ⟨v', w', hr, ?_, New.of_chg (hn.new ha) hch (fun b e => Nat.le_trans h0 (World.ownsRow.lt h b e).1), hch, by simpa using hbl⟩
  unfold OwnL
  rw [List.length_append]
  exact ho'
theorem OwnL.form {w : World} {B : Nat} {v : Value} {K : List Value} (h : OwnL w B v K) (hk : 0 < K.length) : ∃ g c, v = .slice (some ⟨g, 0, none⟩) K.length c ∧ B ≤ g ∧ g < w.heap.size ∧ ∀ i u, K[i]? = some u → w.cell? ⟨g, i, none⟩ = some u := by
  have h' := h
  rcases h.2 with ⟨_, h0⟩ | ⟨g, cap, cur, rfl, hb, hg, _⟩
  · omega
  · refine ⟨g, cap, rfl, hb, (Array.getElem?_eq_some_iff.1 hg).1, fun i u hu => ?_⟩
    have := World.ownsRow.cells h' rfl i u hu
    rwa [add_at, Nat.zero_add] at this
/-- behind 'set.levels = append(set.levels, make([]uint64, words))' -/
def AfterL (w : World) (K : List Value) (wd : Nat) (wx : World) : Prop :=
  ∃ (v' : Value) (M : Nat) (f' f2 : Nat → Value), RowIs wx (w.heap.size + 1) 54 2 f' ∧ f' 0 = v' ∧ f' 1 = .int .i64 0 ∧ OwnL wx (w.heap.size + 2) v' (K ++ [.slice (some ⟨M, 0, none⟩) wd wd]) ∧ New w wx ∧ w.heap.size + 2 ≤ wx.heap.size ∧ RowIs wx M 61 wd (fun _ => .int .u64 0) ∧ w.heap.size + 2 ≤ M ∧ v'.ownBlock ≠ some M ∧ RowIs wx w.heap.size 54 2 f2 ∧
    (∀ WB words, K = [.slice (some ⟨WB, 0, none⟩) words words] → RowIs wx WB 61 words (fun _ => .int .u64 0) ∧ v'.ownBlock ≠ some WB)
/-- what newIndexSet hands back -/
def MadeSet (w : World) (n : Nat) (e : Ending) (w' : World) : Prop :=
  ∃ (LB l1 c1 WB words : Nat), e = .returned (.agg #[.slice (some ⟨LB, 0, none⟩) l1 c1, .int .i64 0]) ∧ 0 < l1 ∧ w'.cell? ⟨LB, 0, none⟩ = some (.slice (some ⟨WB, 0, none⟩) words words) ∧ n ≤ 64 * words ∧ RowIs w' WB 61 words (fun _ => .int .u64 0) ∧ New w w' ∧ w.heap.size ≤ LB ∧ w.heap.size ≤ WB ∧ LB ≠ WB ∧ LB < w'.heap.size
set_option maxHeartbeats 4000000 in
theorem newIndexSet_any (n : Nat) (w : World) (hn : n ≤ 256) : Calls Yba.prog 12 #[.int .i64 (n : Int)] w (MadeSet w n) := by
  have HN0 : Hid (New w ((w.alloc (.cells #[.slice none 0 0, .int .i64 0] 54)).alloc (.cells #[.slice none 0 0, .int .i64 0] 54))) := ((Chg.refl _ w).alloc _).alloc _
  have r2 := (RowIs.made w #[.slice none 0 0, .int .i64 0] 54).chg ((Chg.refl (fun _ => False) _).alloc (.cells #[.slice none 0 0, .int .i64 0] 54)) (fun h => h)
  have r3 := RowIs.made (w.alloc (.cells #[.slice none 0 0, .int .i64 0] 54)) #[.slice none 0 0, .int .i64 0] 54
  have hsz1 : (w.alloc (.cells #[.slice none 0 0, .int .i64 0] 54)).heap.size = w.heap.size + 1 := by simp
  rw [hsz1] at r3
  have HR2 : Hid (RowIs ((w.alloc (.cells #[.slice none 0 0, .int .i64 0] 54)).alloc (.cells #[.slice none 0 0, .int .i64 0] 54)) w.heap.size 54 2 (fun i => (#[.slice none 0 0, .int .i64 0] : Array Value)[i]?.getD undef)) := r2
  have HR3 : Hid (RowIs ((w.alloc (.cells #[.slice none 0 0, .int .i64 0] 54)).alloc (.cells #[.slice none 0 0, .int .i64 0] 54)) (w.heap.size + 1) 54 2 (fun i => (#[.slice none 0 0, .int .i64 0] : Array Value)[i]?.getD undef)) := r3
  have HSZ : Hid (w.heap.size + 2 ≤ ((w.alloc (.cells #[.slice none 0 0, .int .i64 0] 54)).alloc (.cells #[.slice none 0 0, .int .i64 0] 54)).heap.size) := by show _ ≤ _; simp
  clear r2 r3 hsz1
  go_enter Yba.func12, Yba.ntmps12
  go_wp2
  generalize hwb : (w.alloc (.cells #[.slice none 0 0, .int .i64 0] 54)).alloc (.cells #[.slice none 0 0, .int .i64 0] 54) = wb at *
  clear hwb
  go_loopw [0] (fun s0 wr => ∃ (q : Nat) (K : List Value) (v : Value) (f : Nat → Value), s0 = .int .i64 (q : Int) ∧ q ≤ 256 ∧ RowIs wr (w.heap.size + 1) 54 2 f ∧ f 0 = v ∧ f 1 = .int .i64 0 ∧ OwnL wr (w.heap.size + 2) v K ∧ New w wr ∧ w.heap.size + 2 ≤ wr.heap.size ∧ (∃ f2, RowIs wr w.heap.size 54 2 f2) ∧
      ((K = [] ∧ q = n) ∨ (∃ WB words, K = [.slice (some ⟨WB, 0, none⟩) words words] ∧ q = words ∧ words ≤ 4 ∧ n ≤ 64 * words ∧ RowIs wr WB 61 words (fun _ => .int .u64 0) ∧ w.heap.size + 2 ≤ WB ∧ v.ownBlock ≠ some WB))) (fun s0 _ => (intOf s0).toNat)
  case atStart => exact ⟨n, [], _, _, rfl, hn, HR3.out, rfl, rfl, World.ownsRow_nil _ _ _ _, HN0.out, HSZ.out, ⟨_, HR2.out⟩, .inl ⟨rfl, rfl⟩⟩
  case round =>
    clear HR2 HR3 HN0 HSZ
    obtain ⟨q, K, v, f, rfl, hq, hrow, hf0, hf1, hown, hnew, hsz, ⟨f2, hrow2⟩, hcase⟩ := hrel
    obtain ⟨wd, hwd⟩ : ∃ wd : Nat, wd = max 1 ((q + 63) / 64) := ⟨_, rfl⟩
    have hwd4 : 1 ≤ wd ∧ wd ≤ 4 ∧ q ≤ 64 * wd ∧ (wd ≠ 1 → wd < q) := by omega
    have hK1 : K.length ≤ 1 ∧ (K.length = 1 → wd = 1) := by
      rcases hcase with ⟨rfl, _⟩ | ⟨WB, words, rfl, rfl, h4, _⟩
      · simp
      · refine ⟨by simp, fun _ => by omega⟩
    have HCASE : Hid ((K = [] ∧ q = n) ∨ (∃ WB words, K = [.slice (some ⟨WB, 0, none⟩) words words] ∧ q = words ∧ words ≤ 4 ∧ n ≤ 64 * words ∧ RowIs wr WB 61 words (fun _ => .int .u64 0) ∧ w.heap.size + 2 ≤ WB ∧ v.ownBlock ≠ some WB)) := hcase
    obtain ⟨oM, hM, rM⟩ := made_row Yba.underlying62 (show (Yba.prog.info? 61).map (fun i => (i.zero, i.size, i.bytes)) = some (some (.int .u64 0), 1, 8) by kernel_rfl) rfl wd (by decide) (by omega)
    have hdr : New w wr.drew := hnew.drew
    have haM : New wr.drew (wr.drew.alloc oM) := (Chg.refl _ _).alloc _
    have hownM : OwnL (wr.drew.alloc oM) (w.heap.size + 2) v K := World.ownsRow.alloc (w := wr.drew) hown oM
    have hszM : (wr.drew.alloc oM).heap.size = wr.heap.size + 1 := by simp
    obtain ⟨v', w', hr, hown', hnew', hch', hbl⟩ := pushL (x := .slice (some ⟨wr.heap.size, 0, none⟩) wd wd) hownM (hdr.new haM) (by omega) (by omega) rfl (by omega)
    rw [hszM] at hr hbl
    have hvb : ∀ b, v.ownBlock = some b → w.heap.size + 2 ≤ b ∧ b < wr.heap.size := fun b hb => World.ownsRow.lt hown b hb
    have keep : ∀ {B : Nat} {e : TypeId} {k : Nat} {g : Nat → Value}, RowIs wr B e k g → v.ownBlock ≠ some B → RowIs w' B e k g := fun {B e k g} hB hne => ((hB.chg (New.any (D := fun _ => False) ((Chg.refl (fun _ => False) wr).drew.new haM)) (fun h => h)).chg ((Chg.refl (fun _ => False) (wr.drew.alloc oM)).alloc _) (fun h => h)).chg hch' hne
    have hrow' := keep hrow (fun e => by have := (hvb _ e).1; omega)
    have hrow2' := keep hrow2 (fun e => by have := (hvb _ e).1; omega)
    have hM' : RowIs w' wr.heap.size 61 wd (fun _ => .int .u64 0) := ((rM wr.drew).chg ((Chg.refl (fun _ => False) (wr.drew.alloc oM)).alloc _) (fun h => h)).chg hch' (fun e => by have := (hvb _ e).2; simp at this)
    obtain ⟨gv, cv, ev, hgv, hgl, hgc⟩ := hown'.form (by simp)
    have c0 := hrow.cell (i := 0) (by decide)
    rw [hf0] at c0
    have c0M : (wr.alloc oM).cell? ⟨w.heap.size + 1, 0, none⟩ = some v := ((Chg.refl (fun _ => False) wr).alloc oM).cell c0 (fun h => h)
    have c0MM : ((wr.alloc oM).alloc (.cells #[.slice (some ⟨wr.heap.size, 0, none⟩) wd wd] 62)).cell? ⟨w.heap.size + 1, 0, none⟩ = some v := ((Chg.refl (fun _ => False) (wr.alloc oM)).alloc _).cell c0M (fun h => h)
    have c0' := hrow'.cell (i := 0) (by decide)
    have z0' := hrow'.frozen 0
    have hS : Chg (fun k => k = w.heap.size + 1) w' (w'.setCell ⟨w.heap.size + 1, 0, none⟩ v') := Chg.set (D := fun k => k = w.heap.size + 1) (Chg.refl _ w') (fun _ => rfl) _
    have hownS : OwnL (w'.setCell ⟨w.heap.size + 1, 0, none⟩ v') (w.heap.size + 2) v' (K ++ [.slice (some ⟨wr.heap.size, 0, none⟩) wd wd]) := by
      refine ⟨hown'.1, ?_⟩
      rcases hown'.2 with h0 | ⟨g, cap, cur, e, hb, hg, r⟩
      · exact .inl h0
      · exact .inr ⟨g, cap, cur, e, hb, (hS.block (Array.getElem?_eq_some_iff.1 hg).1 (by omega)).trans hg, r⟩
    have HAL : Hid (AfterL w K wd (w'.setCell ⟨w.heap.size + 1, 0, none⟩ v')) := by
      refine ⟨v', wr.heap.size, _, f2, hrow'.set (by decide) v', rfl, hf1, hownS, New.of_chg hnew' hS (fun b e => by omega), Nat.le_trans hsz (Nat.le_trans (Nat.le_trans haM.size (Nat.le_trans (by simp) hch'.size)) hS.size), hM'.chg hS (by omega), hsz, fun e => ?_, hrow2'.chg hS (by omega), fun WB words hKe => ?_⟩
      · rcases hbl with h | h
        · rw [h] at e; have := (hvb _ e).2; omega
        · rw [h] at e; simp at e; omega
      · rcases hcase with ⟨rfl, _⟩ | ⟨WB', words', rfl, _, _, _, hrw, hge, hne⟩
        · cases hKe
        · cases hKe
          refine ⟨(keep hrw hne).chg hS (by omega), fun e => ?_⟩
          rcases hbl with h | h
          · rw [h] at e; exact hne e
          · rw [h] at e
            have := hrw.lt
            simp at e
            omega
    have HHALT : Hid (1 ≤ wd ∧ wd ≤ 4 ∧ q ≤ 64 * wd ∧ (wd ≠ 1 → wd < q)) := hwd4
    have HB2 : Hid (w.heap.size + 2 ≤ wr.heap.size) := hsz
    subst ev
    clear hown hnew hcase rM hdr haM hownM hszM hown' hnew' hch' hbl hvb keep hrow' hrow2' hM' hgv hgl hgc hS hownS hrow hrow2
    have hkl : K.length ≤ 1 := hK1.1
    generalize hkn : (K ++ [.slice (some ⟨wr.heap.size, 0, none⟩) wd wd] : List Value).length = kn at *
    go_upto_region 2 with fail
    go_cut [4] (fun s4 wx => s4 = .int .i64 (wd : Int) ∧ wr = wx)
    case first =>
      go_wp2_with fail
      all_goals go_meet
      all_goals first | exact ⟨rfl, rfl⟩ | (refine ⟨?_, rfl⟩; congr 1; omega)
    case rest =>
    obtain ⟨rfl, rfl⟩ := hcut
    clear hwd hkn
    go_upto_region 3 with fail
    go_cut [] (fun wx => AfterL w K wd wx)
    case first =>
      go_region_law (refine step_app rfl (.tmp 10) (.tmp 13) 52 52 rfl hr (by simp [Act.eval]) (by simp [Act.eval]) ?_)
      all_goals go_wp2_with fail
      all_goals go_meet
      all_goals exact HAL.out
    case rest =>
    clear HAL hr c0 c0M c0MM c0' z0' hM
    obtain ⟨v', M, f', f3, hr', hf0', hf1', ho', hn', hs', hM', hMge, hvM, hr2', hold⟩ := hcut
    obtain ⟨g9, c9, ev, hgv, hgl, hgc⟩ := ho'.form (by simp)
    have c0 := hr'.cell (i := 0) (by decide)
    have c1 := hr'.cell (i := 1) (by decide)
    rw [hf0'] at c0
    rw [hf1'] at c1
    have d0 := hr2'.cell (i := 0) (by decide)
    have d1 := hr2'.cell (i := 1) (by decide)
    have y0 := hr2'.frozen 0
    have y1 := hr2'.frozen 1
    by_cases hw1 : wd = 1
    · have HEND : Hid (MadeSet w n (.returned (.agg #[v', .int .i64 0])) ((wc.setCell ⟨w.heap.size, 0, none⟩ v').setCell ⟨w.heap.size, 1, none⟩ (.int .i64 0))) := by
        have hS : Chg (fun k => k = w.heap.size) wc ((wc.setCell ⟨w.heap.size, 0, none⟩ v').setCell ⟨w.heap.size, 1, none⟩ (.int .i64 0)) := Chg.set (D := fun k => k = w.heap.size) (Chg.set (D := fun k => k = w.heap.size) (Chg.refl _ wc) (fun _ => rfl) _) (fun _ => rfl) _
        have hNN := New.of_chg hn' hS (fun b e => by omega)
        have hb9 : v'.ownBlock = some g9 := by rw [ev]; rfl
        rcases HCASE.out with ⟨rfl, rfl⟩ | ⟨WB, words, rfl, _, _, hnw, _, hge, _⟩
        · exact ⟨g9, _, c9, M, wd, by rw [ev], by simp, hS.cell (hgc 0 _ rfl) (by omega), HHALT.out.2.2.1, hM'.chg hS (by omega), hNN, by omega, by omega, fun e => hvM (by rw [hb9, e]), Nat.lt_of_lt_of_le hgl hS.size⟩
        · obtain ⟨ho1, ho2⟩ := hold WB words rfl
          exact ⟨g9, _, c9, WB, words, by rw [ev], by simp, hS.cell (hgc 0 _ rfl) (by omega), hnw, ho1.chg hS (by omega), hNN, by omega, by omega, fun e => ho2 (by rw [hb9, e]), Nat.lt_of_lt_of_le hgl hS.size⟩
      subst ev
      clear hr' ho' hn' hs' hM' hr2' hold HCASE hgc hvM hf0'
      generalize (K ++ [.slice (some ⟨M, 0, none⟩) wd wd] : List Value).length = k9 at *
      have tw : ((wd : Int) == 1) = true := by simp; omega
      go_wp2_with fail
      refine bodyPost_ret (v := .agg #[.slice (some ⟨g9, 0, none⟩) k9 c9, .int .i64 0]) ?_ rfl ?_
      · rw [results_cell rfl]
        go_simp
      · exact HEND.out
    · have tw : ((wd : Int) == 1) = false := by simp; omega
      have HREL : Hid (K = [] ∧ wd < q ∧ n ≤ 64 * wd) := by
        show _ ∧ _ ∧ _
        rcases HCASE.out with ⟨rfl, rfl⟩ | ⟨WB, words, rfl, rfl, h4, _⟩
        · exact ⟨rfl, HHALT.out.2.2.2 hw1, HHALT.out.2.2.1⟩
        · have := hK1.2 rfl; omega
      have HST : Hid (RowIs wc (w.heap.size + 1) 54 2 f' ∧ f' 0 = v' ∧ f' 1 = .int .i64 0 ∧ OwnL wc (w.heap.size + 2) v' (K ++ [.slice (some ⟨M, 0, none⟩) wd wd]) ∧ New w wc ∧ w.heap.size + 2 ≤ wc.heap.size ∧ RowIs wc M 61 wd (fun _ => .int .u64 0) ∧ w.heap.size + 2 ≤ M ∧ v'.ownBlock ≠ some M ∧ RowIs wc w.heap.size 54 2 f3) := ⟨hr', hf0', hf1', ho', hn', hs', hM', hMge, hvM, hr2'⟩
      have hlt := HREL.out.2.1
      clear hr' ho' hn' hs' hM' hr2' hold HCASE hgc hvM hf0' ev hf1'
      go_wp2_with fail
      go_roundw
      case rel =>
        obtain ⟨s1, s2, s3, s4, s5, s6, s7, s8, s9, s10⟩ := HST.out
        obtain ⟨rfl, _, h64⟩ := HREL.out
        exact ⟨wd, _, v', f', rfl, by omega, s1, s2, s3, s4, s5, s6, ⟨f3, s10⟩, .inr ⟨M, wd, rfl, rfl, by omega, h64, s7, s8, s9⟩⟩
      case measure => simp [intOf]; omega
end Go.Proofs.Ybulkbtdo.U
