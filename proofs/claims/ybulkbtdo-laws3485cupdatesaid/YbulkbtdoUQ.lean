/-
  check: every range against the model.
-/
import Derived.Test.YbulkbtdoUP
namespace Go.Proofs.Ybulkbtdo.U
open Go.RowKit
set_option maxRecDepth 100000
theorem pow_step {r k K : Nat} (h1 : 1 ≤ r) (h : r * 2 ^ k < 2 ^ K) : (r + 1) * 2 ^ k ≤ 2 ^ K := by
  have hp : 0 < 2 ^ k := Nat.two_pow_pos k
  have hk : k < K := by
    have : 2 ^ k < 2 ^ K := Nat.lt_of_le_of_lt (by have := Nat.mul_le_mul_right (2 ^ k) h1; omega) h
    exact (Nat.pow_lt_pow_iff_right (by decide)).1 this
  have e : 2 ^ K = 2 ^ (K - k) * 2 ^ k := by rw [← Nat.pow_add]; congr 1; omega
  rw [e] at h ⊢
  have := Nat.lt_of_mul_lt_mul_right h
  exact Nat.mul_le_mul_right _ this
/-- what check reads -/
structure Seen (w : World) (G : Geo) (T MB : Nat) (N : Nat → Am) (nv lv : Nat → Value) (Le : Nat → Am) (lo : Nat → Nat) (mem : Nat → Bool) : Prop where
  c0 : w.cell? ⟨T, 0, none⟩ = some (.int .i64 (G.size : Int))
  c4 : w.cell? ⟨T, 4, none⟩ = some (.slice (some ⟨G.GL, 0, none⟩) (G.size - 1) (G.size - 1))
  c6 : w.cell? ⟨T, 6, none⟩ = some (.slice (some ⟨G.GO, 0, none⟩) (G.size - 1) (G.size - 1))
  lr : RowIs w G.GL 49 (G.size - 1) lv
  la : ∀ k, k < G.size - 1 → AmV w (lv k) (Le k)
  or : RowIs w G.GO 5 (G.size - 1) (fun k => .int .u8 (lo k : Int))
  nr : RowIs w G.GN 49 G.n nv
  na : ∀ i, i < G.n → AmV w (nv i) (N i)
  no : ∀ i, i < G.n → AmOk (N i)
  mr : RowIs w MB 4 G.n (fun k => .bool (mem k))
theorem Seen.new {w w' : World} {G : Geo} {T MB : Nat} {N : Nat → Am} {nv lv : Nat → Value} {Le : Nat → Am} {lo : Nat → Nat} {mem : Nat → Bool} (h : Seen w G T MB N nv lv Le lo mem) (hn : New w w') : Seen w' G T MB N nv lv Le lo mem :=
  ⟨hn.cell h.c0 (fun h => h), hn.cell h.c4 (fun h => h), hn.cell h.c6 (fun h => h), h.lr.chg hn (fun h => h), fun k hk => (h.la k hk).new hn, h.or.chg hn (fun h => h), h.nr.chg hn (fun h => h), fun i hi => (h.na i hi).new hn, h.no, h.mr.chg hn (fun h => h)⟩
theorem okNil : AmOk [] := ⟨fun i j p q _ hp => by simp at hp, fun i p hp => by simp at hp, by simp⟩
set_option maxHeartbeats 8000000 in
theorem check_any (G : Geo) (T MB : Nat) (N : Nat → Am) (nv lv : Nat → Value) (X : Cur) (mem : Nat → Bool) (al : Bool) (w : World) (K : Nat) (h : Seen w G T MB N nv lv X.Le X.lo mem) (hn : G.n ≤ 256) (hK : G.size = 2 ^ K) (hK8 : K ≤ 8) (hgood : ∀ r, 1 ≤ r → r < G.size → Good G N mem al X r) :
    Calls Yba.prog 9 #[.pointer (some ⟨T, 0, none⟩), .slice (some ⟨G.GN, 0, none⟩) G.n G.n, .slice (some ⟨MB, 0, none⟩) G.n G.n, .bool al] w fun e w' => e = .returned (.bool true) ∧ New w w' := by
  have H : Hid (Seen w G T MB N nv lv X.Le X.lo mem) := h
  have HG : Hid (∀ r, 1 ≤ r → r < G.size → Good G N mem al X r) := hgood
  have HK : Hid (G.size = 2 ^ K) := hK
  have hs256 : G.size ≤ 256 := by rw [hK]; exact Nat.le_trans (Nat.pow_le_pow_right (by decide) hK8) (by decide)
  have hs1 : 1 ≤ G.size := by rw [hK]; exact Nat.two_pow_pos K
  have h0 := h.c0
  clear h hgood hK
  go_enter Yba.func9, Yba.ntmps9
  go_wp2
  go_loopw [11] (fun s11 wr => ∃ r : Nat, s11 = .int .i64 (r : Int) ∧ 1 ≤ r ∧ r ≤ G.size ∧ New w wr) (fun s11 _ => G.size - (intOf s11).toNat)
  case atStart => exact ⟨1, rfl, Nat.le_refl _, hs1, Chg.refl _ _⟩
  case round =>
    obtain ⟨r, rfl, hr1, hrs, hnew⟩ := hrel
    have HNW : Hid (New w wr) := hnew
    clear hnew
    by_cases hlt : r < G.size
    · go_wp2
      go_loopw [12, 13] (fun s12 s13 wz => ∃ (k lo cnt : Nat), Hid (lo = r * 2 ^ k) ∧ Hid (cnt = 2 ^ k) ∧ s12 = .int .i64 (lo : Int) ∧ s13 = .int .i64 ((lo + cnt - 1 : Nat) : Int) ∧ Hid (1 ≤ k → (r + 1) * 2 ^ (k - 1) ≤ G.size) ∧ k ≤ 8 ∧ 1 ≤ cnt ∧ lo + cnt ≤ 512 ∧ r ≤ lo ∧ wr = wz) (fun s12 _ _ => 1024 - (intOf s12).toNat)
      case atStart => exact ⟨0, r, 1, by simp [Hid], by simp [Hid], rfl, by congr 1, fun h => by omega, by decide, Nat.le_refl _, by omega, Nat.le_refl _, rfl⟩
      case round =>
        obtain ⟨k, lo, cnt, hlo, hcnt, rfl, rfl, hup, hk8, hc1, h512, hrl, rfl⟩ := hrel
        by_cases hl : lo < G.size
        · have HST : Hid ((r + 1) * 2 ^ k ≤ G.size) := by
            show _ ≤ _
            rw [HK.out]
            refine pow_step hr1 ?_
            rw [← hlo.out, ← HK.out]
            exact hl
          have hlc : lo + cnt ≤ 256 := by
            have h1 := HST.out
            rw [Nat.add_mul, Nat.one_mul, ← hlo.out, ← hcnt.out] at h1
            omega
          have HKK : Hid (k + 1 ≤ 8 ∧ 2 * lo = r * 2 ^ (k + 1) ∧ 2 * cnt = 2 ^ (k + 1)) := by
            refine ⟨?_, ?_, ?_⟩
            · by_cases e : k = 8
              · have := hcnt.out
                rw [e] at this
                have h256 : (2 : Nat) ^ 8 = 256 := by decide
                omega
              · omega
            · rw [hlo.out, Nat.pow_succ, Nat.mul_comm 2, Nat.mul_assoc]
            · rw [hcnt.out, Nat.pow_succ, Nat.mul_comm]
          go_wp2_with fail
          go_roundw
          case rel => exact ⟨k + 1, 2 * lo, 2 * cnt, HKK.out.2.1, HKK.out.2.2, by congr 1, by congr 1; omega, fun _ => HST.out, HKK.out.1, by omega, by omega, by omega, by first | rfl | trivial⟩
          case measure => simp [intOf]; omega
        · have HFN : Hid (fold G N mem none lo cnt = ND G N mem r) := by
            show _ = _
            rw [hlo.out, hcnt.out]
            exact fold_nd G N mem k 9 r (by omega) (by rw [← hlo.out]; omega) hup.out hr1
          clear hlo hcnt hup
          go_wp2
          go_loopw [14, 15, 16] (fun s14 s15 s16 wz => ∃ (l : Nat) (acc : Option Am), s16 = .int .i64 (l : Int) ∧ lo ≤ l ∧ l ≤ lo + cnt ∧ s14 = .bool acc.isSome ∧ AmV wz s15 (acc.getD []) ∧ AmOk (acc.getD []) ∧ acc = fold G N mem none lo (l - lo) ∧ New w wz) (fun _ _ s16 _ => 1024 - (intOf s16).toNat)
          case atStart => exact ⟨lo, none, rfl, Nat.le_refl _, by omega, rfl, AmV.nil _, okNil, by rw [Nat.sub_self]; rfl, HNW.out⟩
          case round =>
            clear HNW
            obtain ⟨l, acc, rfl, hlol, hcc, rfl, hv, hok, hacc, hnew⟩ := hrel
            have HV : Hid (AmV wr u15 (acc.getD [])) := hv
            have HOK : Hid (AmOk (acc.getD [])) := hok
            have HACC : Hid (acc = fold G N mem none lo (l - lo)) := hacc
            have HNW : Hid (New w wr) := hnew
            have HSE : Hid (Seen wr G T MB N nv lv X.Le X.lo mem) := H.out.new hnew
            clear hv hok hacc hnew
            by_cases hc : l < lo + cnt
            · obtain ⟨p, hp⟩ : ∃ p, p = l - G.size := ⟨_, rfl⟩
              have ep : (l : Int) - (G.size : Int) = (p : Int) := by omega
              have HSTEP : Hid (fold G N mem none lo (l + 1 - lo) = cmb acc (if held G mem p then some (N p) else none)) := by
                show fold G N mem none lo (l + 1 - lo) = _
                rw [show l + 1 - lo = (l - lo) + 1 by omega]
                show cmb (fold G N mem none lo (l - lo)) (lf G N mem (lo + (l - lo))) = _
                rw [← HACC.out, show lo + (l - lo) = l by omega]
                unfold lf
                rw [← hp]
              clear hp
              by_cases hpn : p < G.n
              · have hm := HSE.out.mr.cell hpn
                have tp : decide ((p : Int) < (G.n : Int)) = true := decide_eq_true (by omega)
                cases hmp : mem p with
                | true =>
                  rw [hmp] at hm
                  have HS2 : Hid (fold G N mem none lo (l + 1 - lo) = cmb acc (some (N p))) := by
                    show _ = _
                    rw [HSTEP.out, if_pos (show held G mem p = true by simp [held, hpn, hmp])]
                  have hnp := HSE.out.nr.cell hpn
                  have HNA : Hid (AmV wr (nv p) (N p)) := HSE.out.na p hpn
                  have HNO : Hid (AmOk (N p)) := HSE.out.no p hpn
                  clear hmp HSTEP
                  cases acc with
                  | none =>
                    have hown0 : OwnAm (wr.alloc (.cells #[] 73)) wr.heap.size (.slice (some ⟨wr.heap.size, 0, none⟩) 0 0) [] := World.ownsRow_made wr #[] 0 (Nat.le_refl _) (by unfold maxLen; omega) rfl
                    have ha : New wr (wr.alloc (.cells #[] 73)) := (Chg.refl _ wr).alloc _
                    obtain ⟨v9, w9, hr9, ho9, hc9, _⟩ := appAm hown0 ha.size (HNA.out.new ha) (by have := HNO.out.l; simp; omega) 49
                    have HO9 : Hid (AmV w9 v9 (N p)) := ho9.amv
                    have HN9 : Hid (New w w9) := New.of_chg (HNW.out.new ha) hc9 (fun b e => Nat.le_trans HNW.out.size (hown0.ge b e).1)
                    have hnp' : (wr.alloc (.cells #[] 73)).cell? ⟨G.GN, p, none⟩ = some (nv p) := ha.cell hnp (fun h => h)
                    clear hown0 ha ho9 hc9
                    go_wp2_with (first | (at_builtin; refine wpList_app rfl _ _ _ _ rfl hr9 rfl rfl ?_) | fail)
                    go_roundw
                    case rel => exact ⟨l + 1, some (N p), by go_num, by omega, by omega, rfl, HO9.out, HNO.out, HS2.out.symm, HN9.out⟩
                    case measure => simp [intOf]; omega
                  | some M =>
                    go_wp2_with fail
                    refine (meet_any u15 (nv p) M (N p) wr HV.out HNA.out HOK.out HNO.out).mono ?_
                    rintro e w9 ⟨v9, rfl, ho9, hn9⟩
                    have HO9 : Hid (AmV w9 v9 (meetP M (N p))) := ho9.amv
                    have HN9 : Hid (New w w9) := HNW.out.new hn9
                    have HMO : Hid (AmOk (meetP M (N p))) := meetP_ok HOK.out HNO.out
                    clear ho9 hn9
                    go_wp2_with fail
                    go_roundw
                    case rel => exact ⟨l + 1, some (meetP M (N p)), by go_num, by omega, by omega, rfl, HO9.out, HMO.out, HS2.out.symm, HN9.out⟩
                    case measure => simp [intOf]; omega
                | false =>
                  rw [hmp] at hm
                  have HS2 : Hid (fold G N mem none lo (l + 1 - lo) = acc) := by
                    show _ = _
                    rw [HSTEP.out, if_neg (show ¬ held G mem p = true by simp [held, hmp]), cmb_none]
                  clear hmp HSTEP
                  go_wp2_with fail
                  go_roundw
                  case rel => exact ⟨l + 1, acc, by go_num, by omega, by omega, rfl, HV.out, HOK.out, HS2.out.symm, HNW.out⟩
                  case measure => simp [intOf]; omega
              · have tp : decide ((p : Int) < (G.n : Int)) = false := decide_eq_false (by omega)
                have HS2 : Hid (fold G N mem none lo (l + 1 - lo) = acc) := by
                  show _ = _
                  rw [HSTEP.out, if_neg (show ¬ held G mem p = true by simp [held, hpn]), cmb_none]
                clear HSTEP
                go_wp2_with fail
                go_roundw
                case rel => exact ⟨l + 1, acc, by go_num, by omega, by omega, rfl, HV.out, HOK.out, HS2.out.symm, HNW.out⟩
                case measure => simp [intOf]; omega
            · have hll : l = lo + cnt := by omega
              have HAR : Hid (acc = ND G N mem r) := by
                show _ = _
                rw [HACC.out, hll, show lo + cnt - lo = cnt by omega]; exact HFN.out
              obtain ⟨gd1, gd2, gd3⟩ := HG.out r hr1 hlt
              rw [← HAR.out] at gd1 gd2 gd3
              have h4 := HSE.out.c4
              have h6 := HSE.out.c6
              have hg := HSE.out.lr.cell (i := r - 1) (by omega)
              have ho := HSE.out.or.cell (i := r - 1) (by omega)
              have hgv := HSE.out.la (r - 1) (by omega)
              rw [gd1] at hgv
              have e1 : (r : Int) - 1 = ((r - 1 : Nat) : Int) := by omega
              have hML : (acc.getD []).length ≤ 256 := HOK.out.l
              have HGD2 : Hid (decide (X.lo (r - 1) ≠ 0) = acc.isSome) := gd2
              have HGD3 : Hid (al = true → X.lo (r - 1) = if acc.isSome then 9 else 0) := gd3
              have HV2 : Hid (AmV wr (lv (r - 1)) (acc.getD [])) := hgv
              have tl : decide ((l : Int) ≤ ((lo + cnt - 1 : Nat) : Int)) = false := decide_eq_false (by omega)
              have tl' : decide (l ≤ lo + cnt - 1) = false := decide_eq_false (by omega)
              obtain ⟨a1, c1, e15, hk1, _⟩ := HV.out
              obtain ⟨a2, c2, e18, hk2, _⟩ := HV2.out
              rw [e18] at hg HV2
              subst e15
              clear gd1 gd2 gd3 hgv e18 HACC HFN HAR
              generalize hMM : acc.getD [] = M at *
              clear hMM
              generalize hml : M.length = ml at *
              generalize hlw : X.lo (r - 1) = lw at *
              generalize acc.isSome = hb at *
              have HLWc : Hid (∀ wz, New wr wz → wz.cell? ⟨T, 6, none⟩ = some (.slice (some ⟨G.GO, 0, none⟩) (G.size - 1) (G.size - 1)) ∧ wz.cell? ⟨G.GO, r - 1, none⟩ = some (.int .u8 (lw : Int))) := fun wz hz => ⟨hz.cell h6 (fun h => h), hz.cell ho (fun h => h)⟩
              go_wp2
              generalize hwq : wr = wq at *
              clear hwq
              go_loopw [89] (fun s89 wz => ∃ i : Nat, s89 = .int .i64 (i : Int) ∧ i ≤ ml ∧ New wq wz) (fun s89 _ => ml - (intOf s89).toNat)
              case atStart => exact ⟨0, rfl, Nat.zero_le _, Chg.refl _ _⟩
              case round =>
                obtain ⟨i, rfl, him, hnz⟩ := hrel
                have HNZ : Hid (New wq wr) := hnz
                have HNR : Hid (New w wr) := HNW.out.new hnz
                by_cases hi : i < ml
                · obtain ⟨p, hp⟩ := get_lt (L := M) (i := i) (by omega)
                  obtain ⟨a1', c1', q1, _, hx1⟩ := HV.out.new hnz
                  obtain ⟨a2', c2', q2, _, hx2⟩ := HV2.out.new hnz
                  injection q1 with qa qb qc
                  injection q2 with ra rb rc
                  subst qa
                  subst ra
                  obtain ⟨g1, ha1, x1, x2⟩ := hx1 i p hp
                  obtain ⟨g2, ha2, y1, y2⟩ := hx2 i p hp
                  subst ha1
                  subst ha2
                  have hneq := fun wz => neq73_eq p wz
                  have HND : Hid (New wq wr.drew) := hnz.drew
                  clear qb qc rb rc hx1 hx2 hp hnz
                  go_wp2_with fail
                  go_region
                  go_wp2_with fail
                  go_roundw
                  case rel => exact ⟨i + 1, by go_num, by omega, HND.out⟩
                  case measure => simp [intOf]; omega
                · obtain ⟨l6, lo'⟩ := HLWc.out wr hnz
                  clear hnz
                  have hsz1 : r - 1 < G.size - 1 := by omega
                  cases al with
                  | true =>
                    have h3 := HGD3.out rfl
                    cases hb with
                    | true =>
                      have h9 : lw = 9 := h3
                      clear h3 HGD2 HGD3
                      subst h9
                      go_wp2_with fail
                      go_roundw
                      case rel => exact ⟨r + 1, by go_num, by omega, by omega, HNR.out⟩
                      case measure => simp [intOf]; omega
                    | false =>
                      have h9 : lw = 0 := h3
                      clear h3 HGD2 HGD3
                      subst h9
                      go_wp2_with fail
                      go_roundw
                      case rel => exact ⟨r + 1, by go_num, by omega, by omega, HNR.out⟩
                      case measure => simp [intOf]; omega
                  | false =>
                    cases hb with
                    | true =>
                      have h9 : ((lw : Int) != 0) = true := by
                        have := HGD2.out
                        simp at this
                        simp
                        omega
                      have h10 : (((lw : Int) != 0) != true) = false := by rw [h9]; rfl
                      clear HGD2 HGD3
                      go_wp2_with fail
                      go_roundw
                      case rel => exact ⟨r + 1, by go_num, by omega, by omega, HNR.out⟩
                      case measure => simp [intOf]; omega
                    | false =>
                      have h9 : lw = 0 := by
                        have := HGD2.out
                        simpa using this
                      subst h9
                      clear HGD2 HGD3
                      go_wp2_with fail
                      go_roundw
                      case rel => exact ⟨r + 1, by go_num, by omega, by omega, HNR.out⟩
                      case measure => simp [intOf]; omega
    · have hrr : r = G.size := by omega
      subst hrr
      go_wp2_with fail
      go_ret
      exact ⟨rfl, HNW.out⟩
end Go.Proofs.Ybulkbtdo.U
