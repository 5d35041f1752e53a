/-
  THE LOWEST NEEDS: lowerIn, rangeLowest.
-/
import Derived.Test.YbulkbtdoUC
namespace Go.Proofs.Ybulkbtdo.U
open Go.RowKit
set_option maxRecDepth 100000
/-- a slice of places -/
def PlV (w : World) (v : Value) (Q : List Nat) : Prop :=
  ∃ a c, v = .slice a Q.length c ∧ Q.length ≤ c ∧ ∀ (i q : Nat), Q[i]? = some q → ∃ g o, a = some ⟨g, o, none⟩ ∧ w.cell? ⟨g, o + i, none⟩ = some (.int .i32 (q : Int))
theorem PlV.chg {D : Nat → Prop} {w w' : World} {v : Value} {Q : List Nat} (h : PlV w v Q) (hc : Chg D w w') (hd : ∀ k, v.ownBlock = some k → ¬ D k) : PlV w' v Q := by
  obtain ⟨a, c, rfl, hl, hx⟩ := h
  refine ⟨a, c, rfl, hl, fun i q hq => ?_⟩
  obtain ⟨g, o, rfl, h1⟩ := hx i q hq
  exact ⟨g, o, rfl, hc.cell h1 (hd g rfl)⟩
theorem PlV.nil (w : World) : PlV w (.slice none 0 0) [] := ⟨none, 0, rfl, Nat.le_refl _, fun i p hp => by simp at hp⟩
def lowerInN (N : Nat → Am) (Q : List Nat) (p : Nat) (eq : Bool) : Bool := Q.any fun q => atMostN (N q) (N p) && (eq || !atMostN (N p) (N q))
set_option maxHeartbeats 2000000 in
theorem lowerIn_any (G : Geo) (N : Nat → Am) (nv : Nat → Value) (al : Bool) (X : Cur) (v : Value) (Q : List Nat) (p : Nat) (eq : Bool) (w : World) (h : Tree w G N nv al X) (hq : PlV w v Q) (hQ : ∀ (i q : Nat), Q[i]? = some q → q < G.n) (hp : p < G.n) (hl : Q.length ≤ 1000) :
    Calls Yba.prog 23 #[.pointer (some ⟨G.T, 0, none⟩), v, .int .i32 (p : Int), .bool eq] w fun e w' => e = .returned (.bool (lowerInN N Q p eq)) ∧ New w w' := by
  have HT : Hid (Tree w G N nv al X) := h
  have HQ : Hid (∀ (i q : Nat), Q[i]? = some q → q < G.n) := hQ
  obtain ⟨a, c, rfl, hc, hx⟩ := hq
  have HX : Hid (∀ (i q : Nat), Q[i]? = some q → ∃ g o, a = some ⟨g, o, none⟩ ∧ w.cell? ⟨g, o + i, none⟩ = some (.int .i32 (q : Int))) := hx
  have hn := h.ok.n256
  clear h hQ hx
  generalize hm : Q.length = m at *
  go_enter Yba.func23, Yba.ntmps23
  go_wp2_with fail
  refine (need_any G X.vr al nv p w HT.out.tc HT.out.nr hp).mono ?_
  rintro e w' ⟨rfl, rfl⟩
  go_wp2_with fail
  go_loopw [19] (fun s19 wr => ∃ i : Nat, s19 = .int .i64 (i : Int) ∧ i ≤ m ∧ New w' wr ∧ (∀ (k q : Nat), k < i → Q[k]? = some q → (atMostN (N q) (N p) && (eq || !atMostN (N p) (N q))) = false)) (fun s19 _ => m - (intOf s19).toNat)
  case atStart => exact ⟨0, rfl, Nat.zero_le _, Chg.refl _ _, fun k q hk => by omega⟩
  case round =>
    obtain ⟨i, rfl, hin, hb, hlo⟩ := hrel
    have HLO : Hid (∀ (k q : Nat), k < i → Q[k]? = some q → (atMostN (N q) (N p) && (eq || !atMostN (N p) (N q))) = false) := hlo
    have HB : Hid (New w' wr) := hb
    clear hlo hb
    by_cases hlt : i < m
    · obtain ⟨q, hq⟩ : ∃ q, Q[i]? = some q := ⟨_, List.getElem?_eq_getElem (by omega)⟩
      obtain ⟨g, o, ha, hc1⟩ := HX.out _ q hq
      have hc1' := HB.out.cell hc1 (fun h => h)
      have hqn := HQ.out i q hq
      have HQI : Hid (Q[i]? = some q) := hq
      have HT2 : Hid (Tree wr G N nv al X) := HT.out.new HB.out
      subst ha
      clear hq hc1
      go_wp2_with fail
      refine (need_any G X.vr al nv q wr HT2.out.tc HT2.out.nr hqn).mono ?_
      rintro e w2 ⟨rfl, rfl⟩
      go_wp2_with fail
      refine (atMost_any _ _ _ _ _ (HT2.out.na q hqn) (HT2.out.na p hp) (HT2.out.no p hp).s (Nat.le_trans (HT2.out.no q hqn).l (by decide)) (Nat.le_trans (HT2.out.no p hp).l (by decide))).mono ?_
      rintro e w3 ⟨rfl, hb3⟩
      have hb4 : New w' w3 := HB.out.new (New.of_below hb3)
      have HB4 : Hid (New w' w3) := hb4
      have HT3 : Hid (Tree w3 G N nv al X) := HT.out.new hb4
      clear hb3 hb4 hc1'
      have yes : (atMostN (N q) (N p) && (eq || !atMostN (N p) (N q))) = true → lowerInN N Q p eq = true := fun h => List.any_eq_true.2 ⟨q, List.mem_of_getElem? HQI.out, h⟩
      have HY : Hid ((atMostN (N q) (N p) && (eq || !atMostN (N p) (N q))) = true → lowerInN N Q p eq = true) := yes
      have go : (atMostN (N q) (N p) && (eq || !atMostN (N p) (N q))) = false → ∀ (k q' : Nat), k < i + 1 → Q[k]? = some q' → (atMostN (N q') (N p) && (eq || !atMostN (N p) (N q'))) = false := fun h k q' hk hq' => by
        by_cases e : k = i
        · subst e; rw [HQI.out] at hq'; cases hq'; exact h
        · exact HLO.out k q' (by omega) hq'
      have HG : Hid ((atMostN (N q) (N p) && (eq || !atMostN (N p) (N q))) = false → ∀ (k q' : Nat), k < i + 1 → Q[k]? = some q' → (atMostN (N q') (N p) && (eq || !atMostN (N p) (N q'))) = false) := go
      clear yes go
      cases hA : atMostN (N q) (N p) with
      | false =>
        have HA : Hid (atMostN (N q) (N p) = false) := hA
        clear hA
        go_wp2_with fail
        go_roundw
        case rel => exact ⟨i + 1, by go_num, by omega, HB4.out, HG.out (by rw [HA.out]; rfl)⟩
        case measure => simp [intOf]; omega
      | true =>
        have HA : Hid (atMostN (N q) (N p) = true) := hA
        clear hA
        cases eq with
        | true =>
          go_wp2_with fail
          go_ret
          exact ⟨by rw [HY.out (by rw [HA.out]; rfl)]; rfl, HB4.out⟩
        | false =>
          go_wp2_with fail
          refine (atMost_any _ _ _ _ _ (HT3.out.na p hp) (HT3.out.na q hqn) (HT3.out.no q hqn).s (Nat.le_trans (HT3.out.no p hp).l (by decide)) (Nat.le_trans (HT3.out.no q hqn).l (by decide))).mono ?_
          rintro e w5 ⟨rfl, hb5⟩
          have HB5 : Hid (New w' w5) := HB4.out.new (New.of_below hb5)
          clear hb5
          cases hBB : atMostN (N p) (N q) with
          | true =>
            have HBB : Hid (atMostN (N p) (N q) = true) := hBB
            clear hBB
            go_wp2_with fail
            go_roundw
            case rel => exact ⟨i + 1, by go_num, by omega, HB5.out, HG.out (by rw [HA.out, HBB.out]; rfl)⟩
            case measure => simp [intOf]; omega
          | false =>
            have HBB : Hid (atMostN (N p) (N q) = false) := hBB
            clear hBB
            go_wp2_with fail
            go_ret
            exact ⟨by rw [HY.out (by rw [HA.out, HBB.out]; rfl)]; rfl, HB5.out⟩
    · have hii : i = m := by omega
      subst hii
      have HN : Hid (lowerInN N Q p eq = false) := by
        show lowerInN N Q p eq = false
        refine List.any_eq_false.2 fun q hq => ?_
        obtain ⟨k, hk⟩ := List.getElem?_of_mem hq
        rw [HLO.out k q (by have := (List.getElem?_eq_some_iff.1 hk).1; omega) hk]
        simp
      go_wp2_with fail
      go_ret
      exact ⟨by rw [HN.out]; rfl, HB.out⟩
/-- what a range lists -/
def lowOk (G : Geo) (X : Cur) (r : Nat) : Bool := if r < G.size then ((X.lo (r - 1) : Int) != 9) else true
def lowQ (G : Geo) (mem : Nat → Bool) (X : Cur) (r : Nat) : List Nat := if r < G.size then (if X.lo (r - 1) = 9 then [] else (List.range (X.lo (r - 1))).map fun j => X.lw ((r - 1) * 8 + j)) else if held G mem (r - G.size) then [r - G.size] else []
set_option maxHeartbeats 2000000 in
theorem rangeLowest_any (G : Geo) (N : Nat → Am) (nv : Nat → Value) (al : Bool) (X : Cur) (SB r LB : Nat) (mem : Nat → Bool) (u : Nat → Value) (w : World) (h : Tree w G N nv al X) (hs : SetAt w G SB mem) (hr1 : 1 ≤ r) (hr2 : r < 1000) (hLB : RowIs w LB 81 1 u) :
    Calls Yba.prog 22 #[.pointer (some ⟨G.T, 0, none⟩), .pointer (some ⟨SB, 0, none⟩), .int .i64 (r : Int), .pointer (some ⟨LB, 0, none⟩)] w fun e w' => ∃ v, e = .returned (.tuple #[v, .bool (lowOk G X r)]) ∧ PlV w' v (lowQ G mem X r) ∧ Chg (fun k => k = LB) w w' ∧ (∀ b, v.ownBlock = some b → b = LB ∨ b = G.GW) := by
  have HT : Hid (Tree w G N nv al X) := h
  have HC : Hid (TC w G X.vr al) := h.tc
  have h0 := h.tc.c0
  have h5 := h.tc.c5
  have h6 := h.tc.c6
  have hn := h.ok.n256
  have hs256 := h.ok.s256
  by_cases hrs : r < G.size
  · have ho := h.or.cell (i := r - 1) (by omega)
    have ho9 := h.o9 (r - 1) (by omega)
    have HO : Hid (lowOk G X r = ((X.lo (r - 1) : Int) != 9)) := by show _ = _; simp [lowOk, hrs]
    have HQ1 : X.lo (r - 1) = 9 → Hid (lowQ G mem X r = []) := fun e => by show lowQ G mem X r = []; simp [lowQ, hrs, e]
    have HQ2 : X.lo (r - 1) ≠ 9 → Hid (lowQ G mem X r = (List.range (X.lo (r - 1))).map fun j => X.lw ((r - 1) * 8 + j)) := fun e => by show lowQ G mem X r = _; simp [lowQ, hrs, e]
    have HW : Hid (∀ j, j < X.lo (r - 1) → X.lo (r - 1) ≤ 8 → w.cell? ⟨G.GW, (r - 1) * 8 + j, none⟩ = some (.int .i32 (X.lw ((r - 1) * 8 + j) : Int))) := fun j hj h8 => h.wr.cell (by omega)
    have e1 : (r : Int) - 1 = ((r - 1 : Nat) : Int) := by omega
    have hsz : r - 1 < G.size - 1 := by omega
    clear h hs
    generalize hlo : X.lo (r - 1) = lo1 at *
    generalize r - 1 = r1 at *
    by_cases h9 : lo1 = 9
    · have HQ := HQ1 h9
      subst h9
      clear HQ1 HQ2
      go_enter Yba.func22, Yba.ntmps22
      go_wp2_with fail
      go_ret2
      refine ⟨_, by rw [HO.out]; rfl, ?_, Chg.refl _ _, fun b hb => by cases hb⟩
      rw [HQ.out]
      exact PlV.nil _
    · have HQ := HQ2 h9
      have t9 : ((lo1 : Int) != 9) = true := by simp; omega
      have HO1 : Hid (lowOk G X r = true) := by show _ = _; rw [HO.out, t9]
      clear HQ1 HQ2 HO
      go_enter Yba.func22, Yba.ntmps22
      go_wp2_with fail
      go_ret2
      refine ⟨.slice (some ⟨G.GW, r1 * 8, none⟩) lo1 ((G.size - 1) * 8 - r1 * 8), by rw [HO1.out]; rfl, ?_, Chg.refl _ _, fun b hb => .inr (Option.some.inj hb).symm⟩
      rw [HQ.out]
      refine ⟨some ⟨G.GW, r1 * 8, none⟩, (G.size - 1) * 8 - r1 * 8, by simp, by simp; omega, fun i q hq => ⟨_, _, rfl, ?_⟩⟩
      have hi : i < lo1 := by simpa using (List.getElem?_eq_some_iff.1 hq).1
      have e : q = X.lw (r1 * 8 + i) := by
        rw [List.getElem?_map, List.getElem?_range hi] at hq
        simpa using hq.symm
      subst e
      exact HW.out i hi (by omega)
  · obtain ⟨p, ep⟩ : ∃ p, p = r - G.size := ⟨_, rfl⟩
    have e1 : (r : Int) - (G.size : Int) = (p : Int) := by omega
    have HO : Hid (lowOk G X r = true) := by show _ = _; simp [lowOk, hrs]
    have HQ : Hid (lowQ G mem X r = if held G mem p then [p] else []) := by show _ = _; simp [lowQ, hrs, ep]
    have HL := leaf_any G X.vr al SB r mem w h.tc hs hn (by omega) hr2
    rw [← ep] at HL
    have HLL : Hid (Calls Yba.prog 20 #[.pointer (some ⟨G.T, 0, none⟩), .pointer (some ⟨SB, 0, none⟩), .int .i64 (r : Int)] w fun e w' => ∃ i : Int, e = .returned (.tuple #[.int .i64 i, .bool (held G mem p)]) ∧ w' = w) := HL
    have hpn : p < 1000 := by omega
    clear h hs HL ep
    cases hd : held G mem p with
    | true =>
      have HQ1 : Hid (lowQ G mem X r = [p]) := by show _ = _; rw [HQ.out, hd]; rfl
      rw [hd] at HLL
      have hf := hLB.frozen 0
      have hcl := hLB.cell (i := 0) (by decide)
      have HR : Hid (RowIs (w.drew.setCell ⟨LB, 0, none⟩ (.int .i32 (p : Int))) LB 81 1 (fun j => if j = 0 then .int .i32 (p : Int) else u j)) := RowIs.set (w := w.drew) hLB (by decide) _
      have HCH : Hid (Chg (fun k => k = LB) w (w.drew.setCell ⟨LB, 0, none⟩ (.int .i32 (p : Int)))) := Chg.set (D := fun k => k = LB) (Chg.refl _ w).drew (fun _ => rfl) _
      clear hd HQ hLB
      go_enter Yba.func22, Yba.ntmps22
      go_wp2_with fail
      refine HLL.out.mono ?_
      rintro e w' ⟨i, rfl, rfl⟩
      go_wp2_with fail
      go_region
      go_wp2_with fail
      go_ret2
      refine ⟨.slice (some ⟨LB, 0, none⟩) 1 1, by rw [HO.out]; rfl, ?_, HCH.out, fun b hb => .inl (Option.some.inj hb).symm⟩
      rw [HQ1.out]
      refine ⟨some ⟨LB, 0, none⟩, 1, rfl, Nat.le_refl _, fun j q hq => ⟨LB, 0, rfl, ?_⟩⟩
      cases j with
      | zero =>
        have e : q = p := by simpa using hq.symm
        subst e
        exact HR.out.cell (i := 0) (by decide)
      | succ j => simp at hq
    | false =>
      have HQ1 : Hid (lowQ G mem X r = []) := by show _ = _; rw [HQ.out, hd]; rfl
      rw [hd] at HLL
      clear hd HQ hLB
      go_enter Yba.func22, Yba.ntmps22
      go_wp2_with fail
      refine HLL.out.mono ?_
      rintro e w' ⟨i, rfl, rfl⟩
      go_wp2_with fail
      go_ret2
      refine ⟨_, by rw [HO.out]; rfl, ?_, Chg.refl _ _, fun b hb => by cases hb⟩
      rw [HQ1.out]
      exact PlV.nil _
end Go.Proofs.Ybulkbtdo.U
