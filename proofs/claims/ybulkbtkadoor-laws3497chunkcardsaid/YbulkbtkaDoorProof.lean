/-
  'Rows.LawS3497CHunkCardSaid', PROVED: the tied card of 'diff.LawS3497CHunk'.
-/
import Derived.Test.YbulkbtkaDoorLaw
import Derived.Test.YbulkbtkaDoorTie
import Derived.Test.YbulkbtkaDoorCards
import Derived.ProofKit
import Derived.OpenShut
import Derived.OpenVars
import Derived.ChangeOld
import Derived.Below
import Derived.LaidMore
import Derived.Stop.Joined
import Derived.Deep.Slices
import Derived.SevenTiedAt
namespace Go.Proofs.YbulkbtkaDoor
open Go.ChangeShapes Go.WideShapes Go.ChangeAt Go.RowKit

theorem own : ownKnob Ybad.prog.godebug = none := by kernel_rfl
theorem laidOut : laidOutB Ybad.prog = true := by kernel_rfl
theorem gPow : Ybad.prog.globalNamed "internal/strconv.uint64pow10" = some 0 := by kernel_rfl
theorem gPowType : (Ybad.prog.globals[0]?).map (·.type) = some 50 := by kernel_rfl
theorem under50 : ∃ e, Ybad.prog.underlying 50 = some (.array 20 e) ∧ Ybad.prog.underlying e = some (.int .u64) ∧ Ybad.prog.cellsOf e = 1 := ⟨_, Ybad.underlying50, by kernel_rfl, by kernel_rfl⟩
theorem cells50 : Ybad.prog.cellsOf 50 = 20 := by kernel_rfl

theorem of_laid {W : World} (h : laidMetH Ybad.prog Rows.lawS3497CHunkRow.laid W) : Tab W.heap.size W := by
  rw [MakeChecks.laidMetH_plain _ _ _ (by kernel_rfl)] at h
  obtain ⟨ps, ⟨g0, t0, cs0, f0, p0, q0, hg0, ht0, hv0, hd0, ⟨g1, t1, cs1, f1, p1, q1, hg1, ht1, hv1, hd1, ⟨g2, t2, cs2, f2, p2, q2, hg2, ht2, hv2, hd2, _, _⟩, _⟩, _⟩, _, _⟩ := h
  obtain rfl := Option.some.inj (gPow.symm.trans hg2)
  obtain rfl := Option.some.inj (gPowType.symm.trans ht2)
  obtain ⟨e, u50, ue, ce⟩ := under50
  have hd : DataW.trod _ Ybad.prog W _ _ _ f2 50 cs2.toList = some (Lib.tabData .u64 Lib.pow10Tab, p2) := hd2
  refine Lib.tabBelow_of_tabIs ?_
  unfold Lib.TabIs
  rw [hv2, ← Lib.cells_of_tab u50 ue ce cells50 hd]

theorem door_met (os : Os) (args : Array Value) : laidMetH Ybad.prog Rows.lawS3497CHunkRow.laid ((World.doorLaid Ybad.prog 400 os).forCall (fun _ _ => 0) ⟨#[], args, []⟩).memory :=
  laidMetH_of_parts3 (fuel := 8) (laidMet_of_run' 8 (by kernel_rfl) (by kernel_rfl)) (by kernel_rfl) (by kernel_rfl)

set_option maxRecDepth 100000 in
theorem law_long (a0 : Option Addr) (l0 c0 : Nat) (a1 : Option Addr) (l1 c1 : Nat) (v2 : Value) (a3 : Option Addr) (l3 c3 : Nat) (v4 : Value) (w : World) (hl : 1024 < l0 ∨ 300 < l1 ∨ 1024 < l3) :
    Calls Ybad.prog 3 #[.slice a0 l0 c0, .slice a1 l1 c1, v2, .slice a3 l3 c3, v4] w fun e w' => e = .returned (.bool true) ∧ Below w.heap.size w w' := by
  by_cases h1 : 300 < l1
  · go_enter Ybad.func3, Ybad.ntmps3
    go_wp2
    go_ret
    exact ⟨rfl, Below.refl _ _⟩
  · by_cases h3 : 1024 < l3
    · go_enter Ybad.func3, Ybad.ntmps3
      go_wp2
      go_ret
      exact ⟨rfl, Below.refl _ _⟩
    · have h0 : 1024 < l0 := by omega
      clear hl
      go_enter Ybad.func3, Ybad.ntmps3
      go_wp2
      go_ret
      exact ⟨rfl, Below.refl _ _⟩

theorem bytes_at {H : Type} {enc : TypeId × Value → H} {W : World} {a : Option Addr} {len cap : Nat} {d : DataW H} {p : List MemPlace} (h : DataW.Trod enc Ybad.prog W 0 (fun _ => true) true 22 (.slice a len cap) d p) :
    ∃ x, ByteAt W a len x := by
  obtain ⟨fuel, hf⟩ := h
  rcases open_ints Ybad.underlying22 Ybad.underlying5 (by kernel_rfl) hf with ⟨hcs, _⟩ | ⟨x, l, c, zs, hcs, _, hl, hm, hz, _, hcell, hwz⟩
  · simp [Value.cells] at hcs
    obtain ⟨rfl, rfl, rfl⟩ := hcs
    exact ⟨fun _ => 0, fun k hk => absurd hk (by omega)⟩
  · simp [Value.cells] at hcs
    obtain ⟨rfl, rfl, rfl⟩ := hcs
    simp only [if_true] at hz
    refine ⟨fun k => (zs.getD k 0).toNat, fun k hk => ?_⟩
    obtain ⟨b, off, spot⟩ := x
    have hspot : spot = none := by simpa [Addr.add] using World.cell?_spot (hcell 0 (by omega))
    subst hspot
    have hmem : zs.getD k 0 ∈ zs := by
      rw [List.getD_eq_getElem?_getD, List.getElem?_eq_getElem (show k < zs.length by omega)]; exact List.getElem_mem _
    have hb := bounds_u8 (hwz _ hmem)
    refine ⟨b, off, rfl, ?_, by show (zs.getD k 0).toNat ≤ 255; omega⟩
    rw [← add_plain, hcell k (by omega)]
    congr 2
    show zs.getD k 0 = ((zs.getD k 0).toNat : Int)
    omega

theorem segs_at {H : Type} {enc : TypeId × Value → H} {W : World} {a : Option Addr} {len cap : Nat} {d : DataW H} {p : List MemPlace} (h : DataW.Trod enc Ybad.prog W 0 (fun _ => true) true 23 (.slice a len cap) d p) :
    ∃ C D I, SegAt W a len C D I := by
  obtain ⟨fuel, hf⟩ := h
  have c25 : Ybad.prog.cellsOf 25 = 3 := by kernel_rfl
  have c5 : Ybad.prog.cellsOf 5 = 1 := by kernel_rfl
  rcases Deep.open_slice Ybad.underlying23 hf with ⟨hcs, _⟩ | ⟨x, l, c, m, n, D, Pl, hcs, _, hl, hm, hmm, _, hx⟩
  · simp [Value.cells] at hcs
    obtain ⟨rfl, rfl, rfl⟩ := hcs
    exact ⟨fun _ => 0, fun _ => 0, fun _ => 0, fun k hk => absurd hk (by omega)⟩
  · simp [Value.cells] at hcs
    obtain ⟨rfl, rfl, rfl⟩ := hcs
    simp only [if_true] at hmm
    have each : ∀ i, i < m → ∃ q : Nat × Nat × Nat, ∃ b off, x = ⟨b, off, none⟩ ∧ W.cell? ⟨b, off + i * 3, none⟩ = some (.int .u8 (q.1 : Int)) ∧ W.cell? ⟨b, off + i * 3 + 1, none⟩ = some (.int .u8 (q.2.1 : Int)) ∧ W.cell? ⟨b, off + i * 3 + 2, none⟩ = some (.int .u8 (q.2.2 : Int)) ∧ q.1 ≤ 255 ∧ q.2.1 ≤ 255 ∧ q.2.2 ≤ 255 := by
      intro i hi
      obtain ⟨cs', h1, h2⟩ := hx i hi
      rw [c25] at h1
      obtain ⟨_, hlen, hcell⟩ := World.cells?_some h1
      obtain ⟨xs, k, hk, hxy, _, hxl, hfs⟩ := DataW.trod_struct Ybad.underlying25 h2
      obtain ⟨b, off, spot⟩ := x
      have hspot : spot = none := by
        obtain ⟨cs0, h10, _⟩ := hx 0 (by omega)
        rw [c25] at h10
        obtain ⟨_, hlen0, hcell0⟩ := World.cells?_some h10
        have e0 := hcell0 0 (by omega)
        match cs0, hlen0 with
        | [u0, u1, u2], _ => simpa [Addr.add] using World.cell?_spot (show W.cell? _ = some u0 from e0)
      subst hspot
      match xs, hxl, cs', hlen with
      | [y0, y1, y2], _, [v0, v1, v2], _ =>
        have g0 := hfs 0 _ rfl
        have g1 := hfs 1 _ rfl
        have g2 := hfs 2 _ rfl
        simp [c5] at g0 g1 g2
        obtain ⟨z0, e0, _, b0⟩ := DataW.trod_int Ybad.underlying5 g0
        obtain ⟨z1, e1, _, b1⟩ := DataW.trod_int Ybad.underlying5 g1
        obtain ⟨z2, e2, _, b2⟩ := DataW.trod_int Ybad.underlying5 g2
        cases e0
        cases e1
        cases e2
        have b0 := bounds_u8 b0
        have b1 := bounds_u8 b1
        have b2 := bounds_u8 b2
        have k0 := hcell 0 (by omega)
        have k1 := hcell 1 (by omega)
        have k2 := hcell 2 (by omega)
        rw [add_at, add_at] at k0 k1 k2
        simp only [Nat.add_zero, List.getElem?_cons_zero, List.getElem?_cons_succ] at k0 k1 k2
        refine ⟨(z0.toNat, z1.toNat, z2.toNat), b, off, rfl, ?_, ?_, ?_, by show z0.toNat ≤ 255; omega, by show z1.toNat ≤ 255; omega, by show z2.toNat ≤ 255; omega⟩
        · rw [k0]; congr 2; show z0 = (z0.toNat : Int); omega
        · rw [k1]; congr 2; show z1 = (z1.toNat : Int); omega
        · rw [k2]; congr 2; show z2 = (z2.toNat : Int); omega
    obtain ⟨q, hq⟩ := Deep.choose_lt each
    refine ⟨fun i => (q i).1, fun i => (q i).2.1, fun i => (q i).2.2, fun k hk => ?_⟩
    obtain ⟨b, off, hb, r⟩ := hq k (by omega)
    exact ⟨b, off, by rw [hb], r⟩

set_option maxRecDepth 100000 in
theorem lifted (os : Os) (started : os.Started) (H : Type) (enc : TypeId × Value → H) :
    ReturnsInHanded {} Ybad.checked os 3 .any (fun w args => (Rows.lawS3497CHunkSpec.pre enc Ybad.prog Ybad.f3 [] false w args ∧ laidMetH Ybad.prog Rows.lawS3497CHunkRow.laid w) ∧ sizedMet enc Ybad.prog Ybad.f3 (OpenSpec.ofChange Rows.lawS3497CHunkSpec) false w args)
      (Rows.lawS3497CHunkSpec.post enc Ybad.prog Ybad.f3 false true false false) := by
  refine returnsInHanded_of_change_and (C := Ybad.checked) (X := fun w _ => laidMetH Ybad.prog Rows.lawS3497CHunkRow.laid w) (fun _ _ _ hh h => h.of_heap hh) own started (by kernel_rfl) Ybad.func3
    (ChangeSpec.witness_shaped (enc := enc) (C := Ybad.checked) (os := os) (X := fun w _ => laidMetH Ybad.prog Rows.lawS3497CHunkRow.laid w) false (World.doorLaid Ybad.prog 400 os) #[.slice none 0 0, .slice none 0 0, .int .u8 0, .slice none 0 0, .int .u8 0] 8 rfl (World.shaped_of_RefB (by kernel_rfl) (by kernel_rfl)) (by kernel_rfl) (by kernel_rfl) (by kernel_rfl) (door_met os _)) ?_
  intro W base args ds gs before hval0 hW _ _ hL _
  have hval : ∀ (j : Nat) t v, Ybad.f3.params[j]? = some t → args[j]? = some v → Value.okWide Ybad.prog W .any base t v := hval0
  have hW' := hW
  obtain ⟨p, q, hA0, hV, rfl, hfz, hnd⟩ := hW
  have hA : DataW.TrodAll enc Ybad.prog W 0 (fun _ => true) true Ybad.f3.params.toList args.toList ds p := hA0
  rw [Ybad.params3] at hA hval
  obtain ⟨v0, vs0, d0, ds0, p0, q0, hargs, rfl, rfl, h0, r0⟩ := trodAll_cons hA
  obtain ⟨v1, vs1, d1, ds1, p1, q1, rfl, rfl, rfl, h1, r1⟩ := trodAll_cons r0
  obtain ⟨v2, vs2, d2, ds2, p2, q2, rfl, rfl, rfl, h2, r2⟩ := trodAll_cons r1
  obtain ⟨v3, vs3, d3, ds3, p3, q3, rfl, rfl, rfl, h3, r3⟩ := trodAll_cons r2
  obtain ⟨v4, vs4, d4, ds4, p4, q4, rfl, rfl, rfl, h4, r4⟩ := trodAll_cons r3
  obtain ⟨rfl, rfl, rfl⟩ := trodAll_nil r4
  obtain rfl : args = #[v0, v1, v2, v3, v4] := by cases args; simp_all
  obtain ⟨rfl, rfl⟩ := trodVars_none hV
  obtain ⟨a0, len0, cap0, rfl⟩ := okWide_slice Ybad.underlying22 (hval 0 22 v0 rfl rfl)
  obtain ⟨a1, len1, cap1, rfl⟩ := okWide_slice Ybad.underlying23 (hval 1 23 v1 rfl rfl)
  obtain ⟨tl, rfl, rfl, rfl, w2⟩ := open_int Ybad.underlying5 (hval 2 5 v2 rfl rfl) h2
  obtain ⟨a3, len3, cap3, rfl⟩ := okWide_slice Ybad.underlying22 (hval 3 22 v3 rfl rfl)
  obtain ⟨cx, rfl, rfl, rfl, w4⟩ := open_int Ybad.underlying5 (hval 4 5 v4 rfl rfl) h4
  have lt0 : ∀ x ∈ p0, x.block < W.heap.size := by obtain ⟨m, hm⟩ := h0; exact DataW.trod_lt m _ _ _ hm
  have lt1 : ∀ x ∈ p1, x.block < W.heap.size := by obtain ⟨m, hm⟩ := h1; exact DataW.trod_lt m _ _ _ hm
  have lt3 : ∀ x ∈ p3, x.block < W.heap.size := by obtain ⟨m, hm⟩ := h3; exact DataW.trod_lt m _ _ _ hm
  obtain ⟨x0, k0⟩ := bytes_at h0
  obtain ⟨C, D, I, k1⟩ := segs_at h1
  obtain ⟨x3, k3⟩ := bytes_at h3
  have b2 := bounds_u8 w2
  have b4 := bounds_u8 w4
  clear hA0 hval0
  have walk : Calls Ybad.prog 3 #[.slice a0 len0 cap0, .slice a1 len1 cap1, .int .u8 tl, .slice a3 len3 cap3, .int .u8 cx] W fun e w' => e = .returned (.bool true) ∧ Below W.heap.size W w' := by
    by_cases hl : 1024 < len0 ∨ 300 < len1 ∨ 1024 < len3
    · exact law_long _ _ _ _ _ _ _ _ _ _ _ _ hl
    · have e2 : tl = (tl.toNat : Int) := by omega
      have e4 : cx = (cx.toNat : Int) := by omega
      rw [e2, e4]
      exact law_any a0 len0 cap0 x0 a1 len1 cap1 C D I tl.toNat a3 len3 cap3 x3 cx.toNat W k0 k1 k3 (by omega) (by omega) (by omega) (by omega) (by omega) (of_laid hL)
  refine walk.mono fun e W' ⟨he, bel⟩ => ?_
  subst he
  exact ⟨_, rfl, _, _, _, [], _, [], hW', trodAll_mk1 (shut_bool Ybad.underlying4 _),
    (trodAll_cons_mk (Below.trod laidOut (by kernel_rfl) (of_decide_eq_true (by kernel_rfl)) h0 bel lt0) (trodAll_cons_mk (Below.trod laidOut (by kernel_rfl) (of_decide_eq_true (by kernel_rfl)) h1 bel lt1) (trodAll_cons_mk (shut_int Ybad.underlying5 w2) (trodAll_cons_mk (Below.trod laidOut (by kernel_rfl) (of_decide_eq_true (by kernel_rfl)) h3 bel lt3) (trodAll_cons_mk (shut_int Ybad.underlying5 w4) trodAll_mk0))))),
    rfl, bel.frame _, fun h => by cases h⟩

theorem row_holds : Rows.LawS3497CHunkSaid :=
  OpenClaim.holds_of_wide 3 Ybad.f3 rfl rfl rfl rfl rfl rfl rfl ⟨rfl, rfl, rfl, rfl, rfl⟩ rfl rfl rfl rfl rfl (by kernel_rfl) Ybad.func3 (by kernel_rfl)
    (of_decide_eq_true (by kernel_rfl)) (by unfold Func.isWrapper; first | (rw [if_pos (by decide +kernel)]; kernel_rfl) | (rw [if_neg (by decide +kernel)]; exact ⟨rfl, rfl⟩))
    (fun os started H enc _ => lifted os started H enc)

/-- THE STATEMENT -/
theorem lawS3497CHunk_proved : Rows.LawS3497CHunkCardSaid :=
  Claim7.holds_tied_plain_at .later [] [.data, .data, .data] true (true, "04b61eb9c29bcdb0759c263ffe9424935e63ca325ac7d56f05ff657c45044745") false
    row_holds (fun _ h => by cases h) (by kernel_rfl) (fun _ h => by cases h) lawS3497CHunk_row_tie rfl ⟨rfl, rfl⟩ (by kernel_rfl) rfl
    (fun f fn hf hfn => by
      obtain rfl : f = 3 := Option.some.inj ((show Ybad.prog.funcNamed "example.com/cairnwell/cairnwell/diff.LawS3497CHunk" = some 3 by kernel_rfl).symm.trans hf) |>.symm
      obtain rfl : fn = Ybad.f3 := (Option.some.inj (Ybad.func3.symm.trans hfn)).symm
      exact ⟨by kernel_rfl, fun j t ht => by
        rw [Ybad.params3] at ht
        have h3 : t = 22 ∨ t = 23 ∨ t = 5 := by
          rcases j with _ | _ | _ | _ | _ | j <;> simp at ht <;> subst ht <;> simp
        rcases h3 with rfl | rfl | rfl
        · exact (show Ybad.prog.wantsStandIn 22 = false by kernel_rfl)
        · exact (show Ybad.prog.wantsStandIn 23 = false by kernel_rfl)
        · exact (show Ybad.prog.wantsStandIn 5 = false by kernel_rfl)⟩)
    (by kernel_rfl)
end Go.Proofs.YbulkbtkaDoor
