/-
  sumNeeds.
-/
import Derived.Test.YbulkbtdoUI
import Derived.Deep.CutBlock
import Derived.Deep.RegionWith
import Derived.Deep.RegionLaw
namespace Go.Proofs.Ybulkbtdo.U
open Go.RowKit
set_option maxRecDepth 100000
/-- append, its run known, as one step of a region that draws -/
theorem step_app {ops : Array Oper} {o : Oper} {a : Act} {w : World} {K : Act → World → Prop} {Q : Exit → Act → World → Prop} {E : Prop}
    (hg : o.guard = none) (s x : Operand) (t tx : TypeId) (hop : o.op = Op.call { callee := Callee.builtin Builtin.append, args := #[s, x], argTypes := #[t, tx] }) {v xv v' : Value} {w' : World}
    (hr : (Builtin.append_ #[t, tx] o.type #[v, xv]).run Yba.prog w = .ok v' w') (hs : a.eval s = v) (hx : a.eval x = xv) (hK : K (a.put o.dst v') w') :
    if Region.wanted o (yielded ops a.tmps) = true then Oper.wp Yba.prog o a w K Q else E := by
  have hw : Region.wanted o (yielded ops a.tmps) = true := by simp [Region.wanted, hg]
  rw [if_pos hw]
  unfold Oper.wp execOp
  simp only [hop, resolve, invoke, builtin, Sem.run_bind, Sem.run_pure, Result.andThen_ok, List.map_toArray, List.map_cons, List.map_nil, hs, hx, hr]
  exact hK
def comb (a b : Bool) (A B : Am) : Am := if a then (if b then meetP A B else A) else (if b then B else [])
/-- behind sumHeld or sumLowest -/
def AfterLow (w : World) (G : Geo) (N : Nat → Am) (nv : Nat → Value) (al : Bool) (X : Cur) (k : Nat) (hd : Bool) (s : Value) (wx : World) : Prop :=
  ∃ (ch : Bool) (X1 : Cur), s = .bool ch ∧ Tree wx G N nv al X1 ∧ Chg (Dt G) w wx ∧ X1.lv = X.lv ∧ X1.vr = X.vr ∧ X1.Le = X.Le ∧ (∀ j, j ≠ k → X1.lo j = X.lo j) ∧ (ch = false → X1.lo k = X.lo k) ∧ decide (X1.lo k ≠ 0) = hd ∧ (al = true → X1.lo k = if hd then 9 else 0)
/-- behind the switch -/
def AfterLeast (w : World) (G : Geo) (N : Nat → Am) (nv : Nat → Value) (al : Bool) (X : Cur) (k : Nat) (L : Am) (s : Value) (wx : World) : Prop :=
  ∃ X2 : Cur, Tree wx G N nv al X2 ∧ Chg (Dt G) w wx ∧ AmV wx s L ∧ (∀ b, (X.lv k).ownBlock = some b → s.ownBlock ≠ some b) ∧ X2.lv = X.lv ∧ X2.Le = X.Le ∧ X2.lo = X.lo
/-- what sumNeeds leaves -/
def Summed (w : World) (G : Geo) (N : Nat → Am) (nv : Nat → Value) (al : Bool) (X : Cur) (k : Nat) (hd : Bool) (L : Am) (e : Ending) (w' : World) : Prop :=
  ∃ X' : Cur, RetB e (fun ch => ch = false → X'.lo k = X.lo k ∧ X'.Le k = X.Le k) ∧ Tree w' G N nv al X' ∧ Chg (Dt G) w w' ∧ (∀ j, j ≠ k → X'.lo j = X.lo j ∧ X'.Le j = X.Le j) ∧ X'.Le k = L ∧ decide (X'.lo k ≠ 0) = hd ∧ (al = true → X'.lo k = if hd then 9 else 0)
set_option maxHeartbeats 4000000 in
theorem sumNeeds_any (G : Geo) (N : Nat → Am) (nv : Nat → Value) (al : Bool) (X : Cur) (SB r : Nat) (mem : Nat → Bool) (w : World) (h : Tree w G N nv al X) (hs : SetAt w G SB mem) (hr1 : 1 ≤ r) (hr2 : r < G.size) :
    Calls Yba.prog 10 #[.pointer (some ⟨G.T, 0, none⟩), .pointer (some ⟨SB, 0, none⟩), .int .i64 (r : Int)] w
      (Summed w G N nv al X (r - 1) (rangeIn G mem X (2 * r) || rangeIn G mem X (2 * r + 1)) (comb (rangeIn G mem X (2 * r)) (rangeIn G mem X (2 * r + 1)) (rangeLe G N mem X (2 * r)) (rangeLe G N mem X (2 * r + 1)))) := by
  have HT : Hid (Tree w G N nv al X) := h
  have HS : Hid (SetAt w G SB mem) := hs
  have hs256 := h.ok.s256
  clear h hs
  go_enter Yba.func10, Yba.ntmps10
  go_wp2_with fail
  rw [show (2 : Int) * (r : Int) = ((2 * r : Nat) : Int) by simp]
  refine (rangeLeast_any G N nv al X SB (2 * r) mem w HT.out HS.out (by omega) (by omega)).mono ?_
  rintro e w1 ⟨rfl, hn1⟩
  have HN1 : Hid (New w w1) := hn1
  clear hn1
  go_wp2_with fail
  rw [show (2 : Int) * (r : Int) + 1 = ((2 * r + 1 : Nat) : Int) by simp]
  refine (rangeLeast_any G N nv al X SB (2 * r + 1) mem w1 (HT.out.new HN1.out) (HS.out.chg (New.any HN1.out)) (by omega) (by omega)).mono ?_
  rintro e w2 ⟨rfl, hn2⟩
  have HN2 : Hid (New w w2) := HN1.out.new hn2
  clear hn2 HN1
  have HT2 : Hid (Tree w2 G N nv al X) := HT.out.new HN2.out
  have HS2 : Hid (SetAt w2 G SB mem) := HS.out.chg (New.any HN2.out)
  have HA1 : Hid (∀ (wx : World) (X1 : Cur), Tree wx G N nv al X1 → X1.lv = X.lv → X1.Le = X.Le → AmV wx (rangeVal G nv mem X (2 * r)) (rangeLe G N mem X (2 * r)) ∧ AmOk (rangeLe G N mem X (2 * r)) ∧ AmV wx (rangeVal G nv mem X (2 * r + 1)) (rangeLe G N mem X (2 * r + 1)) ∧ AmOk (rangeLe G N mem X (2 * r + 1))) := fun wx X1 ht e1 e2 => by
    have h1 := rangeAm ht mem (r := 2 * r) (by omega)
    have h2 := rangeAm ht mem (r := 2 * r + 1) (by omega)
    unfold rangeVal rangeLe at h1 h2 ⊢
    rw [e1, e2] at h1 h2
    exact ⟨h1.1, h1.2, h2.1, h2.2⟩
  have HA2 : Hid (∀ b, G.ow b → (∀ k, k < G.size - 1 → (X.lv k).ownBlock ≠ some b) → (rangeVal G nv mem X (2 * r)).ownBlock ≠ some b ∧ (rangeVal G nv mem X (2 * r + 1)).ownBlock ≠ some b) := fun b hb hk => ⟨own_apart HT.out hb hk mem _ (by omega), own_apart HT.out hb hk mem _ (by omega)⟩
  have HA3 : Hid (∀ b, (X.lv (r - 1)).ownBlock = some b → (rangeVal G nv mem X (2 * r)).ownBlock ≠ some b ∧ (rangeVal G nv mem X (2 * r + 1)).ownBlock ≠ some b) := fun b hb => by
    have hS := (HT.out.la (r - 1) (by omega)).ge b hb
    have ne : ∀ q, 1 ≤ q → q ≠ r → (rangeVal G nv mem X q).ownBlock ≠ some b := fun q hq hqr e => by
      unfold rangeVal at e
      by_cases h1 : q < G.size
      · rw [if_pos h1] at e
        exact (HT.out.ss (r - 1) (by omega) b hb).2 (q - 1) (by omega) (by omega) e
      · rw [if_neg h1] at e
        by_cases h2 : held G mem (q - G.size) = true
        · rw [if_pos h2] at e
          have hp : q - G.size < G.n := by unfold held at h2; simp at h2; exact h2.1
          exact HT.out.nb _ hp b e (.inr (.inr (.inr (.inr hS.1))))
        · rw [if_neg h2] at e
          cases e
    exact ⟨ne _ (by omega) (by omega), ne _ (by omega) (by omega)⟩
  have HSL : Hid (Calls Yba.prog 17 #[.pointer (some ⟨G.T, 0, none⟩), .pointer (some ⟨SB, 0, none⟩), .int .i64 (r : Int)] w2 fun e w' => ∃ (c m : Nat) (pl : Nat → Nat), RetB e (fun ch => ch = false → X.lo (r - 1) = c) ∧ Tree w' G N nv al (X.setLow (r - 1) c m pl) ∧ Chg (Dt G) w2 w' ∧ decide (c ≠ 0) = (rangeIn G mem X (2 * r) || rangeIn G mem X (2 * r + 1))) := sumLowest_any G N nv al X SB r mem w2 HT2.out HS2.out hr1 hr2
  generalize rangeVal G nv mem X (2 * r) = v1 at *
  generalize rangeVal G nv mem X (2 * r + 1) = v2 at *
  generalize rangeLe G N mem X (2 * r) = L1 at *
  generalize rangeLe G N mem X (2 * r + 1) = L2 at *
  generalize rangeIn G mem X (2 * r) = i1 at *
  generalize rangeIn G mem X (2 * r + 1) = i2 at *
  have h11 := HT2.out.tc.c11
  go_upto_if 33 with fail
  go_cut [11] (fun s11 wx => AfterLow w G N nv al X (r - 1) (i1 || i2) s11 wx)
  case first => as_aux_lemma =>
    cases al with
    | true =>
      have HSH := fun hd => sumHeld_any G N nv true X r hd w2 HT2.out hr1 hr2
      have HSH' : Hid (∀ hd, Calls Yba.prog 16 #[.pointer (some ⟨G.T, 0, none⟩), .int .i64 (r : Int), .bool hd] w2 fun e w' => e = .returned (.bool (((if hd then 9 else 0 : Nat) : Int) != (X.lo (r - 1) : Int))) ∧ Tree w' G N nv true (X.setLo (r - 1) (if hd then 9 else 0)) ∧ Chg (Dt G) w2 w') := HSH
      clear HSH
      have FIN : Hid (∀ (hd : Bool) (w' : World), Tree w' G N nv true (X.setLo (r - 1) (if hd then 9 else 0)) → Chg (Dt G) w2 w' → AfterLow w G N nv true X (r - 1) hd (.bool (((if hd then 9 else 0 : Nat) : Int) != (X.lo (r - 1) : Int))) w') := fun hd w' ht hc => by
        refine ⟨_, _, rfl, ht, New.then HN2.out hc, rfl, rfl, rfl, fun j hj => ?_, fun h => ?_, ?_, fun _ => ?_⟩
        · show (if j = r - 1 then _ else X.lo j) = X.lo j
          rw [if_neg hj]
        · show (if r - 1 = r - 1 then _ else X.lo (r - 1)) = X.lo (r - 1)
          rw [if_pos rfl]
          have := bne_eq_false_iff_eq.1 h
          omega
        · show decide ((if r - 1 = r - 1 then (if hd then 9 else 0) else X.lo (r - 1)) ≠ 0) = hd
          rw [if_pos rfl]
          cases hd <;> rfl
        · show (if r - 1 = r - 1 then (if hd then 9 else 0) else X.lo (r - 1)) = _
          rw [if_pos rfl]
      cases i1 <;> cases i2
      all_goals go_wp2_with fail
      all_goals refine (HSH'.out _).mono ?_
      all_goals rintro e w' ⟨rfl, ht, hc⟩
      all_goals go_wp2_with fail
      all_goals go_meet
      all_goals exact FIN.out _ w' ht hc
    | false =>
      go_wp2_with fail
      refine HSL.out.mono ?_
      rintro e w' ⟨c, m, pl, ⟨b, rfl, hb⟩, ht, hc, hin⟩
      have FIN : Hid (AfterLow w G N nv false X (r - 1) (i1 || i2) (.bool b) w') := by
        refine ⟨b, _, rfl, ht, New.then HN2.out hc, rfl, rfl, rfl, fun j hj => ?_, fun h => ?_, ?_, fun h => by cases h⟩
        · show (if j = r - 1 then _ else X.lo j) = X.lo j
          rw [if_neg hj]
        · show (if r - 1 = r - 1 then c else X.lo (r - 1)) = X.lo (r - 1)
          rw [if_pos rfl]
          exact (hb h).symm
        · show decide ((if r - 1 = r - 1 then c else X.lo (r - 1)) ≠ 0) = _
          rw [if_pos rfl]
          exact hin
      clear hb ht hc hin
      go_wp2_with fail
      go_meet
      exact FIN.out
  case rest =>
  obtain ⟨ch, X1, rfl, ht1, hc1, elv, evr, ele, hlo, hch, hd1, hal⟩ := hcut
  have HT1 : Hid (Tree wc G N nv al X1) := ht1
  have HC1 : Hid (Chg (Dt G) w wc) := hc1
  have HLV : Hid (X1.lv = X.lv ∧ X1.Le = X.Le) := ⟨elv, ele⟩
  have HLO : Hid (∀ j, j ≠ r - 1 → X1.lo j = X.lo j) := hlo
  have HCHG : Hid (ch = false → X1.lo (r - 1) = X.lo (r - 1)) := hch
  have HD1 : Hid (decide (X1.lo (r - 1) ≠ 0) = (i1 || i2)) := hd1
  have HAL : Hid (al = true → X1.lo (r - 1) = if (i1 || i2) then 9 else 0) := hal
  clear ht1 hc1 elv evr ele hlo hch hd1 hal h11 HSL HT2 HS2
  go_upto_block 0 with fail
  go_cut [12] (fun s12 wx => AfterLeast wc G N nv al X1 (r - 1) (comb i1 i2 L1 L2) s12 wx)
  case first => as_aux_lemma =>
    obtain ⟨hv1, ok1, hv2, ok2⟩ := HA1.out wc X1 HT1.out HLV.out.1 HLV.out.2
    have HAP : Hid (∀ b, (X1.lv (r - 1)).ownBlock = some b → v1.ownBlock ≠ some b ∧ v2.ownBlock ≠ some b) := fun b hb => HA3.out b (by rw [← HLV.out.1]; exact hb)
    cases i1 with
    | true =>
      cases i2 with
      | true =>
        obtain ⟨a, c, evr, hca⟩ := HT1.out.rr.1.form
        have h10 := HT1.out.tc.c10
        rw [evr] at h10
        generalize X1.R.length = nr at *
        obtain ⟨v3, w3, hr3, ho3, hc3, hb3⟩ := appAm (HT1.out.rr.1.head.1) (Nat.zero_le _) hv1 (by have := ok1.l; simp; omega) 49
        rw [evr] at hr3
        have hr3' : (Builtin.append_ #[49, 49] 49 #[.slice a 0 c, v1]).run Yba.prog wc = .ok v3 w3 := hr3
        clear hr3
        go_wp2_with (first | (at_builtin; refine wpList_app rfl _ _ _ _ rfl hr3' rfl rfl ?_) | fail)
        have hhd := HT1.out.rr.1.head.2
        have hvb : ∀ b, X1.vr.ownBlock = some b → v1.ownBlock ≠ some b ∧ v2.ownBlock ≠ some b := fun b hb => HA2.out b (HT1.out.rr.ge b hb).1 (fun k hk e => (HT1.out.ss k hk b (by rw [HLV.out.1]; exact e)).1 hb)
        have hnb : v2.ownBlock ≠ some wc.heap.size := (HA2.out wc.heap.size (HT1.out.sz _ (Nat.le_refl _)) (fun k hk e => by
          have := ((HT1.out.la k hk).ge _ (by rw [HLV.out.1]; exact e)).2
          omega)).2
        have ho3' : OwnAm w3 0 v3 L1 := ho3
        have how3 : ∀ b, v3.ownBlock = some b → G.ow b := fun b hb => by
          rcases hb3 with h | h
          · exact (HT1.out.rr.ge b (by rw [← hhd, ← h]; exact hb)).1
          · rw [h] at hb; cases hb; exact HT1.out.sz _ (Nat.le_refl _)
        have hv2' : AmV w3 v2 L2 := hv2.chg hc3 (fun k hk e => (hvb k (by rw [← hhd]; exact e)).2 hk)
        have hne : ∀ b, v3.ownBlock = some b → v2.ownBlock ≠ some b := fun b hb e => by
          rcases hb3 with h | h
          · exact (hvb b (by rw [← hhd, ← h]; exact hb)).2 e
          · rw [h] at hb; cases hb; exact hnb e
        obtain ⟨f, hf, _⟩ := HT1.out.tr
        have hT3 := hf.chg hc3 (fun e => by
          exact HT1.out.ok.t.1 (HT1.out.rr.ge _ (by rw [← hhd]; exact e)).1)
        refine (lower_any 0 v3 v2 L1 L2 w3 ho3' hv2' ok1 ok2 hne).mono ?_
        rintro e w5 ⟨v5, rfl, ho5, hb5, hc5⟩
        have hT5 := hT3.chg hc5 (fun e => by
          exact HT1.out.ok.t.1 (how3 _ e))
        have hc35 : Chg (fun b => X1.vr.ownBlock = some b) wc w5 := (hc3.mono (fun b _ e => by rw [← hhd]; exact e)).trans hc5 (fun b hb e => by
          rcases hb3 with h | h
          · rw [← hhd, ← h]; exact e
          · rw [h] at e; cases e; omega)
        have hb5' : v5.ownBlock = X1.vr.ownBlock ∨ ∃ b, v5.ownBlock = some b ∧ wc.heap.size ≤ b := by
          rcases hb3 with h | h
          · exact .inl (by rw [hb5, h, hhd])
          · exact .inr ⟨_, by rw [hb5, h], Nat.le_refl _⟩
        have htr := HT1.out.setRoom hc35 ⟨ho5, fun b hb => how3 b (by rw [← hb5]; exact hb)⟩ hb5'
        have HTR : Hid (Tree (w5.setCell ⟨G.T, 10, none⟩ v5) G N nv al (X1.setRoom v5 (meetP L1 L2))) := htr
        have HCC : Hid (Chg (Dt G) wc (w5.setCell ⟨G.T, 10, none⟩ v5)) := Chg.set (D := Dt G) (hc35.mono (fun b _ e => .inr (.inr (.inr (.inr (HT1.out.rr.ge b e).1))))) (fun _ => .inl rfl) v5
        have h10 := hT5.cell (i := 10) (by decide)
        have h10f := hT5.frozen 10
        obtain ⟨a5, c5, e5, _⟩ := ho5.form
        clear how3 hr3' ho3 hc3 hb3 hhd hvb hnb ho3' hv2' hne hf hT3 ho5 hb5 hc5 hT5 hc35 hb5' htr hv1 hv2 ok1 ok2
        subst e5
        generalize List.length (meetP L1 L2) = n5 at *
        go_wp2_with fail
        go_meet
        refine ⟨_, HTR.out, HCC.out, HTR.out.rr.amv, fun b hb => (HTR.out.ss (r - 1) (by omega) b hb).1, rfl, rfl, rfl⟩
      | false =>
        go_wp2_with fail
        go_meet
        exact ⟨X1, HT1.out, Chg.refl _ _, hv1, fun b hb => (HAP.out b hb).1, rfl, rfl, rfl⟩
    | false =>
      cases i2 with
      | true =>
        go_wp2_with fail
        go_meet
        exact ⟨X1, HT1.out, Chg.refl _ _, hv2, fun b hb => (HAP.out b hb).2, rfl, rfl, rfl⟩
      | false =>
        go_wp2_with fail
        go_meet
        exact ⟨X1, HT1.out, Chg.refl _ _, AmV.nil _, fun b hb => by simp [Value.ownBlock], rfl, rfl, rfl⟩
  case rest =>
  obtain ⟨X2, ht2, hc2, hv, hap, elv, ele, elo⟩ := hcut
  have HOK : Hid (AmOk (comb i1 i2 L1 L2)) := by
    obtain ⟨_, ok1, _, ok2⟩ := HA1.out _ X1 HT1.out HLV.out.1 HLV.out.2
    have okn : AmOk [] := ⟨fun i j p q _ hp => by simp at hp, fun i p hp => by simp at hp, by simp⟩
    unfold comb
    cases i1 <;> cases i2
    · exact okn
    · exact ok2
    · exact ok1
    · exact meetP_ok ok1 ok2
  have HCW : Hid (Chg (Dt G) w wc) := HC1.out.trans hc2 (fun _ _ e => e)
  have HT2 : Hid (Tree wc G N nv al X2) := ht2
  have HX2 : Hid (X2.Le = X.Le ∧ X2.lo = X1.lo ∧ X2.lv = X1.lv) := ⟨ele.trans HLV.out.2, elo, elv⟩
  have HAPP : Hid (∀ b, (X2.lv (r - 1)).ownBlock = some b → u12.ownBlock ≠ some b) := fun b hb => hap b (by rw [← elv]; exact hb)
  have HV : Hid (AmV wc u12 (comb i1 i2 L1 L2)) := hv
  have h4 := ht2.tc.c4
  have hg := ht2.lr.cell (i := r - 1) (by omega)
  have hgf := ht2.lr.frozen (r - 1)
  have e1 : (r : Int) - 1 = ((r - 1 : Nat) : Int) := by omega
  have hsz : r - 1 < G.size - 1 := by omega
  have HEQ : Hid (Calls Yba.prog 19 #[u12, X2.lv (r - 1)] wc fun e w' => e = .returned (.bool (decide (comb i1 i2 L1 L2 = X2.Le (r - 1)))) ∧ New wc w') := equalAm_any _ _ _ _ wc hv (ht2.la (r - 1) hsz).amv (Nat.le_trans HOK.out.l (by decide))
  clear ht2 hc2 hv hap elv ele elo HA1 HA2 HA3 HC1 HT1
  generalize hLc : comb i1 i2 L1 L2 = Lc at *
  go_wp2_with fail
  refine HEQ.out.mono ?_
  rintro e w6 ⟨rfl, hn6⟩
  have HN6 : Hid (New wc w6) := hn6
  by_cases heq : Lc = X2.Le (r - 1)
  · have HEND : Hid (Summed w G N nv al X (r - 1) (i1 || i2) Lc (.returned (.bool ch)) w6) := by
      refine ⟨X2, ⟨ch, rfl, fun h => ⟨?_, ?_⟩⟩, HT2.out.new hn6, HCW.out.new hn6, fun j hj => ⟨?_, ?_⟩, heq.symm, ?_, fun h => ?_⟩
      · rw [HX2.out.2.1]; exact HCHG.out h
      · rw [HX2.out.1]
      · rw [HX2.out.2.1]; exact HLO.out j hj
      · rw [HX2.out.1]
      · rw [HX2.out.2.1]; exact HD1.out
      · rw [HX2.out.2.1]; exact HAL.out h
    have td : decide (Lc = X2.Le (r - 1)) = true := decide_eq_true heq
    rw [td]
    clear td heq hn6
    go_wp2_with fail
    go_ret
    exact HEND.out
  · have td : decide (Lc = X2.Le (r - 1)) = false := decide_eq_false heq
    rw [td]
    clear td
    have hT6 : Tree w6.drew G N nv al X2 := HT2.out.new (HN6.out.drew)
    have h4' : w6.cell? ⟨G.T, 4, none⟩ = _ := hT6.tc.c4
    have hg' : w6.cell? ⟨G.GL, r - 1, none⟩ = _ := hT6.lr.cell (i := r - 1) hsz
    have hgf' : w6.frozen? ⟨G.GL, r - 1, none⟩ = false := hT6.lr.frozen (r - 1)
    have hV6 : AmV w6.drew u12 Lc := HV.out.new HN6.out.drew
    obtain ⟨al1, cl1, elv, hcl⟩ := (hT6.la (r - 1) hsz).1.form
    obtain ⟨v7, w7, hr7, ho7, hc7, hb7⟩ := appAm (B := 0) (hT6.la (r - 1) hsz).1.head.1 (Nat.zero_le _) hV6 (by have := HOK.out.l; simp; omega) 49
    have hhd := (hT6.la (r - 1) hsz).1.head.2
    have hap7 : Chg (fun b => (X2.lv (r - 1)).ownBlock = some b) w6.drew w7 := hc7.mono (fun b _ e => by rw [← hhd]; exact e)
    have hb7' : v7.ownBlock = (X2.lv (r - 1)).ownBlock ∨ ∃ b, v7.ownBlock = some b ∧ w6.drew.heap.size ≤ b := by
      rcases hb7 with h | h
      · exact .inl (by rw [h, hhd])
      · exact .inr ⟨_, h, Nat.le_refl _⟩
    have hlow : ∀ b, ¬ G.ow b → ¬ (X2.lv (r - 1)).ownBlock = some b := fun b hb e => hb ((hT6.la (r - 1) hsz).ge b e).1
    have ho7' : OwnG w7 G v7 Lc := ⟨ho7, fun b hb => by
      rcases hb7 with h | h
      · exact ((hT6.la (r - 1) hsz).ge b (by rw [← hhd, ← h]; exact hb)).1
      · rw [h] at hb; cases hb; exact hT6.sz _ (Nat.le_refl _)⟩
    have htr := hT6.setLe hsz hap7 ho7' hb7' HOK.out
    have htt := hT6.ok.t
    obtain ⟨f, hf, _, _, _, e4, _⟩ := hT6.tr
    have h47 : w7.cell? ⟨G.T, 4, none⟩ = some (.slice (some ⟨G.GL, 0, none⟩) (G.size - 1) (G.size - 1)) := by
      rw [(hf.chg hap7 (hlow _ htt.1)).cell (i := 4) (by decide), e4]
    have hg7 := (hT6.lr.chg hap7 (hlow _ htt.2.2.1)).cell (i := r - 1) hsz
    have hgf7 := (hT6.lr.chg hap7 (hlow _ htt.2.2.1)).frozen (r - 1)
    have HEND : Hid (Summed w G N nv al X (r - 1) (i1 || i2) Lc (.returned (.bool true)) (w7.setCell ⟨G.GL, r - 1, none⟩ v7)) := by
      refine ⟨_, ⟨true, rfl, fun h => by cases h⟩, htr, ?_, fun j hj => ⟨?_, ?_⟩, ?_, ?_, fun h => ?_⟩
      · refine Chg.set (D := Dt G) ((HCW.out.new HN6.out.drew).trans hap7 (fun b _ e => ?_)) (fun _ => .inr (.inl rfl)) v7
        exact .inr (.inr (.inr (.inr (((hT6.la (r - 1) hsz).ge b e).1))))
      · show X2.lo j = X.lo j
        rw [HX2.out.2.1]; exact HLO.out j hj
      · show (if j = r - 1 then Lc else X2.Le j) = X.Le j
        rw [if_neg hj, HX2.out.1]
      · show (if r - 1 = r - 1 then Lc else X2.Le (r - 1)) = Lc
        rw [if_pos rfl]
      · show decide (X2.lo (r - 1) ≠ 0) = _
        rw [HX2.out.2.1]; exact HD1.out
      · show X2.lo (r - 1) = _
        rw [HX2.out.2.1]; exact HAL.out h
    obtain ⟨a7, c7, e7, _⟩ := ho7'.1.form
    rw [elv] at hr7 hg' hg7
    have hr7' : (Builtin.append_ #[49, 49] 49 #[.slice al1 0 cl1, u12]).run Yba.prog w6.drew = .ok v7 w7 := hr7
    clear hr7 hT6 hV6 ho7 hc7 hb7 hhd hap7 hb7' hlow ho7' htr htt hf e4 heq hn6 hg hgf h4 elv
    subst e7
    generalize List.length Lc = n7 at *
    generalize (X2.Le (r - 1)).length = n8 at *
    have hwr : IntKind.i64.wrap ((r - 1 : Nat) : Int) = ((r - 1 : Nat) : Int) := by simp [IntKind.wrap, IntKind.signed, IntKind.bits]; omega
    have hcd : (0 : Int) ≤ ((r - 1 : Nat) : Int) ∧ ((r - 1 : Nat) : Int) < ((G.size - 1 : Nat) : Int) := by omega
    go_upto_region 17 with fail
    go_region_law (refine step_app rfl (.tmp 97) (.tmp 98) 49 49 rfl hr7' (by simp [Act.eval, Act.put]) (by simp [Act.eval, Act.put]) ?_)
    all_goals go_wp2_with fail
    all_goals go_ret
    all_goals exact HEND.out
end Go.Proofs.Ybulkbtdo.U
