/-
  build: the needs of the law's own input.
-/
import Derived.Test.YbulkbtdoUM
namespace Go.Proofs.Ybulkbtdo.U
open Go.RowKit
set_option maxRecDepth 100000
def U16At (w : World) (n : Nat) (ra : Nat → Option Addr) (rl : Nat → Nat) (x : Nat → Nat → Nat) : Prop :=
  ∀ i, i < n → ∀ j, j < rl i → ∃ g o, ra i = some ⟨g, o, none⟩ ∧ w.cell? ⟨g, o + j, none⟩ = some (.int .u16 (x i j : Int)) ∧ x i j ≤ 65535
/-- what build hands back -/
def Built (w : World) (n : Nat) (e : Ending) (w' : World) : Prop :=
  ∃ (GN : Nat) (nv : Nat → Value) (N : Nat → Am), e = .returned (.slice (some ⟨GN, 0, none⟩) n n) ∧ w.heap.size ≤ GN ∧ New w w' ∧ RowIs w' GN 49 n nv ∧ ∀ i, i < n → AmV w' (nv i) (N i) ∧ AmOk (N i) ∧ ∀ b, (nv i).ownBlock = some b → w.heap.size ≤ b ∧ b < w'.heap.size
theorem push_get {K : Am} {q : Nat × Nat} {i : Nat} {p : Nat × Nat} (h : (K ++ [q])[i]? = some p) : (i < K.length ∧ K[i]? = some p) ∨ (i = K.length ∧ p = q) := by
  by_cases e : i < K.length
  · rw [List.getElem?_append_left e] at h; exact .inl ⟨e, h⟩
  · have hi : i < (K ++ [q]).length := (List.getElem?_eq_some_iff.1 h).1
    have e2 : i = K.length := by simp at hi; omega
    subst e2
    simp at h
    exact .inr ⟨rfl, h.symm⟩
theorem sorted_push {K : Am} {d : Nat} {q : Nat × Nat} (hs : Sorted K) (hd : ∀ (i : Nat) (p : Nat × Nat), K[i]? = some p → p.1 ≤ d ∧ 1 ≤ p.2) (hq : d < q.1) : Sorted (K ++ [q]) := by
  intro i j p r hij hp hr
  rcases push_get hp with ⟨h1, h2⟩ | ⟨h1, rfl⟩
  · rcases push_get hr with ⟨h3, h4⟩ | ⟨_, rfl⟩
    · exact hs i j p r hij h2 h4
    · have := (hd i p h2).1; omega
  · have hj : j < (K ++ [p]).length := (List.getElem?_eq_some_iff.1 hr).1
    simp at hj
    omega
set_option maxHeartbeats 4000000 in
theorem build_any (a : Option Addr) (n c : Nat) (ra : Nat → Option Addr) (rl rc : Nat → Nat) (x : Nat → Nat → Nat) (w : World) (h : RawAt w a n ra rl rc) (hx : U16At w n ra rl x) (hn : n ≤ 256) (hl : ∀ i, i < n → rl i ≤ 256) :
    Calls Yba.prog 11 #[.slice a n c] w (Built w n) := by
  have H : Hid (RawAt w a n ra rl rc) := h
  have HX : Hid (U16At w n ra rl x) := hx
  have HL : Hid (∀ i, i < n → rl i ≤ 256) := hl
  clear h hx hl
  obtain ⟨oN, hN, rN⟩ := made_row Yba.underlying46 (show (Yba.prog.info? 49).map (fun i => (i.zero, i.size, i.bytes)) = some (some (.slice none 0 0), 1, 24) by kernel_rfl) rfl n (by decide) (by omega)
  have HRN : Hid (RowIs (w.alloc oN) w.heap.size 49 n (fun _ => .slice none 0 0)) := rN w
  have HNN : Hid (New w (w.alloc oN)) := (Chg.refl _ w).alloc _
  clear rN
  go_enter Yba.func11, Yba.ntmps11
  go_wp2
  generalize hwb : w.alloc oN = wb at *
  clear hwb
  generalize hGN : w.heap.size = GN at *
  have HGN : Hid (w.heap.size = GN) := hGN
  clear hGN hN
  go_loopw [15] (fun s15 wr => ∃ (i : Nat) (nv : Nat → Value) (N : Nat → Am), s15 = .int .i64 (i : Int) ∧ i ≤ n ∧ New w wr ∧ RowIs wr GN 49 n nv ∧ ∀ k, k < i → AmV wr (nv k) (N k) ∧ AmOk (N k) ∧ ∀ b, (nv k).ownBlock = some b → GN < b ∧ b < wr.heap.size) (fun s15 _ => n - (intOf s15).toNat)
  case atStart => exact ⟨0, _, fun _ => [], rfl, Nat.zero_le _, HNN.out, HRN.out, fun k hk => by omega⟩
  case round =>
    clear HRN HNN
    obtain ⟨i, nv, N, rfl, hin, hnew, hrow, hok⟩ := hrel
    have HNW : Hid (New w wr) := hnew
    have HROW : Hid (RowIs wr GN 49 n nv) := hrow
    have HOK : Hid (∀ k, k < i → AmV wr (nv k) (N k) ∧ AmOk (N k) ∧ ∀ b, (nv k).ownBlock = some b → GN < b ∧ b < wr.heap.size) := hok
    clear hnew hrow hok
    by_cases hlt : i < n
    · obtain ⟨g, o, ha, hc0⟩ := H.out i hlt
      have hc1 := HNW.out.cell hc0 (fun h => h)
      have hli := HL.out i hlt
      have hown0 : OwnAm (wr.alloc (.cells #[] 73)) wr.heap.size (.slice (some ⟨wr.heap.size, 0, none⟩) 0 0) [] := World.ownsRow_made wr #[] 0 (Nat.le_refl _) (by unfold maxLen; omega) rfl
      have HO0 : Hid (OwnAm (wr.alloc (.cells #[] 73)) wr.heap.size (.slice (some ⟨wr.heap.size, 0, none⟩) 0 0) []) := hown0
      have HN0 : Hid (New wr (wr.alloc (.cells #[] 73))) := (Chg.refl _ wr).alloc _
      have HXI : Hid (∀ j, j < rl i → ∃ g o, ra i = some ⟨g, o, none⟩ ∧ w.cell? ⟨g, o + j, none⟩ = some (.int .u16 (x i j : Int)) ∧ x i j ≤ 65535) := HX.out i hlt
      subst ha
      clear hc0 hown0
      generalize rl i = l at *
      generalize ra i = rai at *
      generalize rc i = rci at *
      generalize x i = xi at *
      go_wp2
      generalize hwa : wr.alloc (.cells #[] 73) = wa at *
      clear hwa
      generalize hW0 : wr = W0 at *
      clear hW0
      go_loopw [6, 7, 23] (fun s6 s7 s23 wz => ∃ (j d : Nat) (K : Am), s23 = .int .i64 (j : Int) ∧ s7 = .int .i64 (d : Int) ∧ j ≤ l ∧ d ≤ 3 * j ∧ OwnAm wz W0.heap.size s6 K ∧ New W0 wz ∧ W0.heap.size ≤ wz.heap.size ∧ K.length = j ∧ Sorted K ∧ (∀ (q : Nat) (p : Nat × Nat), K[q]? = some p → p.1 ≤ d ∧ 1 ≤ p.2)) (fun _ _ s23 _ => l - (intOf s23).toNat)
      case atStart => exact ⟨0, 0, [], rfl, rfl, Nat.zero_le _, Nat.le_refl _, HO0.out, HN0.out, HN0.out.size, rfl, fun i j p q _ hp => by simp at hp, fun q p hp => by simp at hp⟩
      case round =>
        clear HO0 HN0
        obtain ⟨j, d, K, rfl, rfl, hjl, hdj, hown, hnz, hsz, hKj, hso, hpq⟩ := hrel
        have HOW : Hid (OwnAm wr W0.heap.size u6 K) := hown
        have HNZ : Hid (New W0 wr) := hnz
        have HSO : Hid (Sorted K) := hso
        have HPQ : Hid (∀ (q : Nat) (p : Nat × Nat), K[q]? = some p → p.1 ≤ d ∧ 1 ≤ p.2) := hpq
        clear hown hnz hso hpq
        by_cases hj : j < l
        · obtain ⟨gx, ox, hra, hcx, hx5⟩ := HXI.out j hj
          have hcx' := (HNW.out.new HNZ.out).cell hcx (fun h => h)
          subst hra
          clear hcx
          generalize xi j = xv at *
          obtain ⟨v9, w9, hr9, ho9, hn9, hs9⟩ := pushAm HOW.out HNZ.out (Nat.le_refl _) hsz ((d : Int) + (1 + (xv : Int) % 3)) (1 + (xv : Int) / 3 % 50) (d + (1 + xv % 3), 1 + xv / 3 % 50) (by omega) (by omega) (by omega)
          have HO9 : Hid (OwnAm w9 W0.heap.size v9 (K ++ [(d + (1 + xv % 3), 1 + xv / 3 % 50)])) := ho9
          have HN9 : Hid (New W0 w9) := hn9
          clear ho9 hn9
          go_wp2_with (first | (at_builtin; refine wpList_app rfl _ _ _ _ rfl hr9 rfl rfl ?_) | fail)
          go_roundw
          case rel =>
            refine ⟨j + 1, d + (1 + xv % 3), _, by go_num, ?_, by omega, by omega, HO9.out, HN9.out, hs9, by simp; omega, sorted_push HSO.out HPQ.out (by show d < d + (1 + xv % 3); omega), fun q p hp => ?_⟩
            · congr 1
            · rcases push_get hp with ⟨_, h2⟩ | ⟨_, rfl⟩
              · have := HPQ.out q p h2; omega
              · exact ⟨Nat.le_refl _, by show 1 ≤ 1 + xv / 3 % 50; omega⟩
          case measure => simp [intOf]; omega
        · have hjj : j = l := by omega
          have HRW : Hid (RowIs wr GN 49 n nv) := HROW.out.chg HNZ.out (fun h => h)
          have hgc := HRW.out.cell hlt
          have hgf := HRW.out.frozen i
          obtain ⟨a6, c6, e6, _⟩ := HOW.out.form
          rw [hKj] at e6
          have HKO : Hid (AmOk K) := ⟨HSO.out, fun q p hp => (HPQ.out q p hp).2, by omega⟩
          have HGW : Hid (GN < W0.heap.size) := HROW.out.lt
          have HW0 : Hid (New w wr) := HNW.out.new HNZ.out
          subst e6
          clear hKj
          have HCS : Hid (Chg (fun k => k = GN) wr (wr.setCell ⟨GN, i, none⟩ (.slice a6 j c6))) := Chg.set (D := fun k => k = GN) (Chg.refl _ wr) (fun _ => rfl) _
          have HRS : Hid (RowIs (wr.setCell ⟨GN, i, none⟩ (.slice a6 j c6)) GN 49 n (fun k => if k = i then .slice a6 j c6 else nv k)) := HRW.out.set hlt _
          clear hjj
          go_wp2_with fail
          go_roundw
          case rel =>
            refine ⟨i + 1, fun k => if k = i then .slice a6 j c6 else nv k, fun k => if k = i then K else N k, by go_num, by omega, ?_, HRS.out, fun k hk => ?_⟩
            · exact New.of_chg (D := fun k => k = GN) HW0.out HCS.out (fun b e => by have := HGN.out; omega)
            · have hb := HOW.out.ge
              show AmV (wr.setCell ⟨GN, i, none⟩ (.slice a6 j c6)) (if k = i then .slice a6 j c6 else nv k) (if k = i then K else N k) ∧ AmOk (if k = i then K else N k) ∧ ∀ b, (if k = i then .slice a6 j c6 else nv k : Value).ownBlock = some b → GN < b ∧ b < (wr.setCell ⟨GN, i, none⟩ (.slice a6 j c6)).heap.size
              by_cases e : k = i
              · rw [if_pos e, if_pos e]
                refine ⟨HOW.out.amv.chg HCS.out (fun b hb' e' => ?_), HKO.out, fun b hb' => ?_⟩
                · have h1 := (hb b hb').1
                  have h2 := HGW.out
                  omega
                · have h1 := hb b hb'
                  have h2 := HGW.out
                  have h3 := HCS.out.size
                  omega
              · rw [if_neg e, if_neg e]
                obtain ⟨o1, o2, o3⟩ := HOK.out k (by omega)
                refine ⟨(o1.new HNZ.out).chg HCS.out (fun b hb' e' => ?_), o2, fun b hb' => ?_⟩
                · have := o3 b hb'; omega
                · have h1 := o3 b hb'
                  have h2 := HNZ.out.size
                  have h3 := HCS.out.size
                  omega
          case measure => simp [intOf]; omega
    · have hii : i = n := by omega
      subst hii
      have HB : Hid (Built w i (.returned (.slice (some ⟨GN, 0, none⟩) i i)) wr) := ⟨GN, nv, N, rfl, Nat.le_of_eq HGN.out, HNW.out, HROW.out, fun k hk => by
        obtain ⟨o1, o2, o3⟩ := HOK.out k hk
        refine ⟨o1, o2, fun b hb => ?_⟩
        have := o3 b hb
        have := HGN.out
        omega⟩
      go_wp2_with fail
      go_ret
      exact HB.out
end Go.Proofs.Ybulkbtdo.U
