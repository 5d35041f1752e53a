/-
  'Rows.LawS3485BRoundTripToldSaid', PROVED: the told and tied card of 'workload.LawS3485BRoundTrip'.
-/
import Derived.Test.YbulkbtdoFmtLaw
import Derived.Test.YbulkbtdoFmtTie
import Derived.Test.YbulkbtdoFmtCards
import Derived.ProofKit
import Derived.OpenShut
import Derived.OpenVars
import Derived.ShutString
import Derived.ChangeOld
import Derived.Below
import Derived.LaidMore
import Derived.Stop.Joined
import Derived.Stop.JoinedAt
import Derived.Stop.JoinedTold
import Derived.Stop.LaidErr
import Derived.SliceStrings
import Derived.Deep.DeepWitnessRef
import Derived.SevenTiedAt
namespace Go.Proofs.YbulkbtdoFmt
open Go.ChangeShapes Go.WideShapes Go.ChangeAt Go.RowKit
open Go.ChangeMaps (open_string shut_string)

theorem own : ownKnob Ybaf.prog.godebug = none := by kernel_rfl
theorem laidOut : laidOutB Ybaf.prog = true := by kernel_rfl
theorem cells9 : Ybaf.prog.cellsOf 9 = 1 := by kernel_rfl
theorem gNames : Ybaf.prog.globalNamed "example.com/headroom/headroom/internal/workload.policyNames" = some 0 := by kernel_rfl
theorem gNamesType : (Ybaf.prog.globals[0]?).map (·.type) = some 26 := by kernel_rfl

theorem names_eq {ss : List ByteArray} {len : Nat} (hlen : len ≤ ss.length)
    (h : Rows.laid_example_com_headroom_headroom_internal_workload_policyNames (H := Unit) = .slice (strs (ss.take len)) (strs (ss.drop len))) : ss = pnames ∧ len = 4 := by
  unfold Rows.laid_example_com_headroom_headroom_internal_workload_policyNames at h
  injection h with h1 h2
  have hd : ss.drop len = [] := by
    unfold strs at h2
    exact List.map_eq_nil_iff.1 h2.symm
  have hll : ss.length ≤ len := List.drop_eq_nil_iff.1 hd
  have ht : ss.take len = ss := List.take_of_length_le hll
  rw [ht] at h1
  unfold strs at h1
  have hL : ss.length = 4 := by
    have := congrArg List.length h1
    simpa using this.symm
  match ss, hL, h1, hlen, hll with
  | [s0, s1, s2, s3], _, h1, hlen, hll =>
    simp only [List.map_cons, List.map_nil, List.cons.injEq, DataW.lit.injEq, Lit.string.injEq, and_true] at h1
    obtain ⟨e0, e1, e2, e3⟩ := h1
    have b : ∀ {s : ByteArray} {l : List UInt8}, l = s.data.toList → s = ⟨l.toArray⟩ := fun {s l} h => by
      cases s; subst h; simp
    refine ⟨?_, by simp at hlen hll; omega⟩
    rw [b e0, b e1, b e2, b e3]
    rfl

theorem of_laid {W : World} (h : laidMetH Ybaf.prog Rows.lawS3485BRoundTripRow.laid W) : LaidNames W := by
  rw [MakeChecks.laidMetH_plain _ _ _ (by kernel_rfl)] at h
  obtain ⟨ps, ⟨g0, t0, cs0, f0, p0, q0, hg0, ht0, hv0, hd0, _, _⟩, _, _⟩ := h
  obtain rfl := Option.some.inj (gNames.symm.trans hg0)
  obtain rfl := Option.some.inj (gNamesType.symm.trans ht0)
  rcases open_strings Ybaf.underlying26 Ybaf.underlying9 cells9 hd0 with ⟨_, hx⟩ | ⟨a, len, cap, ss, hcs, _, hl, hm, hz, hx, hcell, hws⟩
  · have := congrArg Prod.fst hx
    unfold Rows.laid_example_com_headroom_headroom_internal_workload_policyNames at this
    cases this
  · have hx1 := congrArg Prod.fst hx
    have hlen : len ≤ ss.length := by rw [hz]; split <;> omega
    obtain ⟨rfl, rfl⟩ := names_eq hlen hx1
    obtain ⟨b, off, spot⟩ := a
    have hspot : spot = none := by simpa [Addr.add] using World.cell?_spot (hcell 0 (by decide))
    subst hspot
    refine ⟨b, off, cap, ?_, fun j hj => by rw [← add_plain]; exact hcell j hj⟩
    have := World.var?_cell hg0 hv0 0
    rw [Array.eq_one_of_toList hcs] at this
    simpa using this

theorem door_met (os : Os) (args : Array Value) : laidMetH Ybaf.prog Rows.lawS3485BRoundTripRow.laid ((World.doorLaid Ybaf.prog 400 os).forCall (fun _ _ => 0) ⟨#[], args, []⟩).memory :=
  laidMetH_of_parts3 (fuel := 8) (laidMet_of_run' 8 (by kernel_rfl) (by kernel_rfl)) (by kernel_rfl) (by kernel_rfl)

set_option maxRecDepth 100000 in
theorem law_long (v0 v1 v2 v3 v4 v5 : Value) (a6 : Option Addr) (l6 c6 : Nat) (v7 : Value) (w : World) (hl : 1024 < l6) :
    Calls Ybaf.prog 3 #[v0, v1, v2, v3, v4, v5, .slice a6 l6 c6, v7] w fun e w' => e = .returned (.bool true) ∧ Below w.heap.size w w' := by
  go_enter Ybaf.func3, Ybaf.ntmps3
  go_wp2
  go_ret
  exact ⟨rfl, Below.refl _ _⟩

theorem bytes_at {H : Type} {enc : TypeId × Value → H} {W : World} {a : Option Addr} {len cap : Nat} {d : DataW H} {p : List MemPlace} (h : DataW.Trod enc Ybaf.prog W 0 (fun _ => true) true 22 (.slice a len cap) d p) :
    (∃ x, BytesAt W a len x) ∧ len ≤ 9223372036854775807 := by
  obtain ⟨fuel, hf⟩ := h
  rcases open_ints Ybaf.underlying22 Ybaf.underlying5 (by kernel_rfl) hf with ⟨hcs, _⟩ | ⟨x, l, c, zs, hcs, _, hl, hm, hz, _, hcell, hwz⟩
  · simp [Value.cells] at hcs
    obtain ⟨rfl, rfl, rfl⟩ := hcs
    exact ⟨⟨fun _ => 0, fun k hk => absurd hk (by omega)⟩, by omega⟩
  · simp [Value.cells] at hcs
    obtain ⟨rfl, rfl, rfl⟩ := hcs
    simp only [if_true] at hz
    unfold maxLen at hm
    refine ⟨⟨fun k => zs.getD k 0, fun k hk => ?_⟩, by omega⟩
    obtain ⟨b, off, spot⟩ := x
    have hspot : spot = none := by simpa [Addr.add] using World.cell?_spot (hcell 0 (by omega))
    subst hspot
    have hmem : zs.getD k 0 ∈ zs := by
      rw [List.getD_eq_getElem?_getD, List.getElem?_eq_getElem (show k < zs.length by omega)]; exact List.getElem_mem _
    have hb := bounds_u8 (hwz _ hmem)
    exact ⟨b, off, rfl, by rw [← add_plain]; exact hcell k (by omega), hb.1, by show zs.getD k 0 ≤ 255; omega⟩

theorem vals_at {H : Type} {enc : TypeId × Value → H} {W : World} {a : Option Addr} {len cap : Nat} {d : DataW H} {p : List MemPlace} (h : DataW.Trod enc Ybaf.prog W 0 (fun _ => true) true 23 (.slice a len cap) d p) :
    ∃ x, ValsAt W a len x := by
  obtain ⟨fuel, hf⟩ := h
  rcases open_ints Ybaf.underlying23 Ybaf.underlying2 (by kernel_rfl) hf with ⟨hcs, _⟩ | ⟨x, l, c, zs, hcs, _, hl, hm, hz, _, hcell, hwz⟩
  · simp [Value.cells] at hcs
    obtain ⟨rfl, rfl, rfl⟩ := hcs
    exact ⟨fun _ => 0, fun k hk => absurd hk (by omega)⟩
  · simp [Value.cells] at hcs
    obtain ⟨rfl, rfl, rfl⟩ := hcs
    simp only [if_true] at hz
    refine ⟨fun k => zs.getD k 0, fun k hk => ?_⟩
    obtain ⟨b, off, spot⟩ := x
    have hspot : spot = none := by simpa [Addr.add] using World.cell?_spot (hcell 0 (by omega))
    subst hspot
    have hmem : zs.getD k 0 ∈ zs := by
      rw [List.getD_eq_getElem?_getD, List.getElem?_eq_getElem (show k < zs.length by omega)]; exact List.getElem_mem _
    exact ⟨b, off, rfl, by rw [← add_plain]; exact hcell k (by omega), hwz _ hmem⟩

set_option maxRecDepth 100000 in
theorem t_lifted (os : Os) (started : os.Started) (H : Type) (enc : TypeId × Value → H) :
    ReturnsInTold none {} Ybaf.checked os 3 .any Input.okWide ((OpenSpec.ofChange Rows.lawS3485BRoundTripSpec).preRow enc Ybaf.prog Ybaf.f3 Rows.lawS3485BRoundTripRow.domain false Rows.lawS3485BRoundTripRow.laid)
      (fun F => ((OpenSpec.ofChange Rows.lawS3485BRoundTripSpec).at F).post enc Ybaf.prog Ybaf.f3 false true false false) (aloneAtReturn Ybaf.prog) nothingAlways := by
  refine returnsInTold_of_row (C := Ybaf.checked) (s := OpenSpec.ofChange Rows.lawS3485BRoundTripSpec) (by kernel_rfl) own started (by kernel_rfl) Ybaf.func3
    (OpenSpec.witness_stopped_atRef (enc := enc) (C := Ybaf.checked) false (World.doorLaid Ybaf.prog 400 os) #[.slice none 0 0, .int .u8 0, .int .u8 0, .bool false, .int .i64 0, .bool false, .slice none 0 0, .slice none 0 0] rfl (by kernel_rfl) (by kernel_rfl) (by kernel_rfl)
      (OpenSpec.preRow_of_B rfl 8 (by kernel_rfl) (by kernel_rfl) (door_met os _))) ?_
  intro F W base args ds gs before _ hF hval0 hW _ _ _ hL _
  have hval : ∀ (j : Nat) t v, Ybaf.f3.params[j]? = some t → args[j]? = some v → Value.okWide Ybaf.prog W .any base t v := hval0
  have hW' := hW
  obtain ⟨p, q, hA0, hV, rfl, hfz, hnd⟩ := hW
  have hA : DataW.TrodAll enc Ybaf.prog W 0 (fun _ => true) true Ybaf.f3.params.toList args.toList ds p := hA0
  rw [Ybaf.params3] at hA hval
  obtain ⟨v0, vs0, d0, ds0, p0, q0, hargs, rfl, rfl, h0, r0⟩ := trodAll_cons hA
  obtain ⟨v1, vs1, d1, ds1, p1, q1, rfl, rfl, rfl, h1, r1⟩ := trodAll_cons r0
  obtain ⟨v2, vs2, d2, ds2, p2, q2, rfl, rfl, rfl, h2, r2⟩ := trodAll_cons r1
  obtain ⟨v3, vs3, d3, ds3, p3, q3, rfl, rfl, rfl, h3, r3⟩ := trodAll_cons r2
  obtain ⟨v4, vs4, d4, ds4, p4, q4, rfl, rfl, rfl, h4, r4⟩ := trodAll_cons r3
  obtain ⟨v5, vs5, d5, ds5, p5, q5, rfl, rfl, rfl, h5, r5⟩ := trodAll_cons r4
  obtain ⟨v6, vs6, d6, ds6, p6, q6, rfl, rfl, rfl, h6, r6⟩ := trodAll_cons r5
  obtain ⟨v7, vs7, d7, ds7, p7, q7, rfl, rfl, rfl, h7, r7⟩ := trodAll_cons r6
  obtain ⟨rfl, rfl, rfl⟩ := trodAll_nil r7
  obtain rfl : args = #[v0, v1, v2, v3, v4, v5, v6, v7] := by cases args; simp_all
  obtain ⟨g1, rfl⟩ : ∃ g, gs = [g] := by
    obtain ⟨_, _, _, _, d, _, e, _⟩ := trodVars_one hV
    exact ⟨d, e⟩
  obtain ⟨a0, len0, cap0, rfl⟩ := okWide_slice Ybaf.underlying22 (hval 0 22 v0 rfl rfl)
  obtain ⟨pi, rfl, rfl, rfl, w1⟩ := open_int Ybaf.underlying5 (hval 1 5 v1 rfl rfl) h1
  obtain ⟨si, rfl, rfl, rfl, w2⟩ := open_int Ybaf.underlying5 (hval 2 5 v2 rfl rfl) h2
  obtain ⟨rcl, rfl, rfl, rfl⟩ := open_bool Ybaf.underlying4 (hval 3 4 v3 rfl rfl) h3
  obtain ⟨tmo, rfl, rfl, rfl, w4⟩ := open_int Ybaf.underlying2 (hval 4 2 v4 rfl rfl) h4
  obtain ⟨mx, rfl, rfl, rfl⟩ := open_bool Ybaf.underlying4 (hval 5 4 v5 rfl rfl) h5
  obtain ⟨a6, len6, cap6, rfl⟩ := okWide_slice Ybaf.underlying22 (hval 6 22 v6 rfl rfl)
  obtain ⟨a7, len7, cap7, rfl⟩ := okWide_slice Ybaf.underlying23 (hval 7 23 v7 rfl rfl)
  have lt0 : ∀ x ∈ p0, x.block < W.heap.size := by obtain ⟨m, hm⟩ := h0; exact DataW.trod_lt m _ _ _ hm
  have lt6 : ∀ x ∈ p6, x.block < W.heap.size := by obtain ⟨m, hm⟩ := h6; exact DataW.trod_lt m _ _ _ hm
  have lt7 : ∀ x ∈ p7, x.block < W.heap.size := by obtain ⟨m, hm⟩ := h7; exact DataW.trod_lt m _ _ _ hm
  obtain ⟨⟨x0, k0⟩, hl0⟩ := bytes_at h0
  obtain ⟨⟨x6, k6⟩, _⟩ := bytes_at h6
  obtain ⟨x7, k7⟩ := vals_at h7
  have b1 := bounds_u8 w1
  have b2 := bounds_u8 w2
  clear hA0 hval0
  have walk : Calls Ybaf.prog 3 #[.slice a0 len0 cap0, .int .u8 pi, .int .u8 si, .bool rcl, .int .i64 tmo, .bool mx, .slice a6 len6 cap6, .slice a7 len7 cap7] W fun e w' => e = .returned (.bool true) ∧ Below W.heap.size W w' := by
    by_cases hl : 1024 < len6
    · exact law_long _ _ _ _ _ _ _ _ _ _ _ hl
    · exact law_any a0 len0 cap0 x0 pi si rcl tmo mx a6 len6 cap6 x6 a7 len7 cap7 x7 W k0 k6 k7 (by omega) hl0 ⟨b1.1, by omega⟩ ⟨b2.1, by omega⟩ (of_laid hL)
  refine walk.mono fun e W' ⟨he, bel⟩ => ?_
  subst he
  exact ⟨_, rfl, _, _, _, [], _, _, hW', trodAll_mk1 (shut_bool Ybaf.underlying4 _),
    (trodAll_cons_mk (Below.trod laidOut (by kernel_rfl) (of_decide_eq_true (by kernel_rfl)) h0 bel lt0) (trodAll_cons_mk (shut_int Ybaf.underlying5 w1) (trodAll_cons_mk (shut_int Ybaf.underlying5 w2) (trodAll_cons_mk (shut_bool Ybaf.underlying4 _) (trodAll_cons_mk (shut_int Ybaf.underlying2 w4) (trodAll_cons_mk (shut_bool Ybaf.underlying4 _)
      (trodAll_cons_mk (Below.trod laidOut (by kernel_rfl) (of_decide_eq_true (by kernel_rfl)) h6 bel lt6) (trodAll_cons_mk (Below.trod laidOut (by kernel_rfl) (of_decide_eq_true (by kernel_rfl)) h7 bel lt7) trodAll_mk0)))))))),
    Below.trodVars laidOut bel (by kernel_rfl) hV, bel.frame _, fun h => by cases h⟩

theorem stops : Ybaf.pinned.checked.prog.stops = ["fmt.errorf"] := by kernel_rfl
theorem stopKnobs : Ybaf.pinned.checked.prog.stopKnobs = [] := by kernel_rfl
theorem quiet (os : Os) : Stop.quiet Ybaf.pinned.checked.prog os := by
  intro k hk
  rw [stopKnobs] at hk
  cases hk
theorem laidOutP : laidOutB Ybaf.pinned.checked.prog = true := by kernel_rfl

/-- THE STATEMENT -/
theorem lawS3485BRoundTrip_proved : Rows.LawS3485BRoundTripToldSaid :=
  Claim7.holds_of_told_tied_any_at .later 3 Ybaf.f3 "fmt.errorf" [] [] _ _ _ _ _ (by kernel_rfl) rfl rfl rfl laidOutP (by kernel_rfl) rfl ⟨rfl, rfl, rfl, rfl, rfl, rfl, rfl⟩ rfl rfl (by kernel_rfl) (by kernel_rfl) Ybaf.func3 (by kernel_rfl)
    (of_decide_eq_true (by kernel_rfl)) (of_decide_eq_true (by kernel_rfl)) stops.symm rfl stopKnobs.symm (by kernel_rfl)
    (by kernel_rfl) (by kernel_rfl) (by kernel_rfl) (by kernel_rfl) (by kernel_rfl) (by kernel_rfl) (by kernel_rfl) (by kernel_rfl) (by kernel_rfl) rfl (by kernel_rfl) rfl rfl
    rfl rfl
    rfl (by kernel_rfl) (by kernel_rfl) (by kernel_rfl) (by decide) (by kernel_rfl) lawS3485BRoundTrip_row_tie
    (OpenClaim.moreEntering_of (by kernel_rfl) (by kernel_rfl) (by kernel_rfl) (by kernel_rfl) (by kernel_rfl) (by kernel_rfl) (by kernel_rfl) (by kernel_rfl) (by kernel_rfl) (by kernel_rfl))
    ⟨_, WideRow.started_initial, quiet _⟩
    (fun os started _ H enc _ => t_lifted os started H enc)
end Go.Proofs.YbulkbtdoFmt
