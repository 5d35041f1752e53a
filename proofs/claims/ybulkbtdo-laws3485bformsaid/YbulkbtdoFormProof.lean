/-
  'Rows.LawS3485BFormSaid', PROVED: for every input the law returns true, and each argument reads afterwards as it read before.
-/
import Derived.Test.YbulkbtdoFormB
import Derived.ProofKit
import Derived.OpenShut
import Derived.ShutString
import Derived.ChangeOld
import Derived.Below
namespace Go.Proofs.Ybulkbtdo
open Go.ChangeShapes Go.WideShapes Go.ChangeAt Go.RowKit
open Go.ChangeMaps (open_string shut_string)

theorem form_own : ownKnob Yba.prog.godebug = none := by kernel_rfl
theorem form_laidOut : laidOutB Yba.prog = true := by kernel_rfl

set_option maxRecDepth 100000 in
theorem form_long (v0 v1 v2 v3 v4 v5 : Value) (a6 : Option Addr) (l6 c6 : Nat) (v7 : Value) (w : World) (hl : 1024 < l6) :
    Calls Yba.prog 3 #[v0, v1, v2, v3, v4, v5, .slice a6 l6 c6, v7] w fun e w' => e = .returned (.bool true) ∧ Below w.heap.size w w' := by
  go_enter Yba.func3, Yba.ntmps3
  go_wp2
  go_ret
  exact ⟨rfl, Below.refl _ _⟩

theorem form_any (name pol share : ByteArray) (rc : Bool) (to : Int) (mx : Bool) (a6 : Option Addr) (l6 c6 : Nat) (ss : List ByteArray) (a7 : Option Addr) (l7 c7 : Nat) (zs : List Int) (w : World)
    (hk : KeysAt w a6 l6 ss) (hz : ValsAt w a7 l7 zs) :
    Calls Yba.prog 3 #[.string name, .string pol, .string share, .bool rc, .int .i64 to, .bool mx, .slice a6 l6 c6, .slice a7 l7 c7] w fun e w' => e = .returned (.bool true) ∧ Below w.heap.size w w' := by
  by_cases hl : 1024 < l6
  · exact form_long _ _ _ _ _ _ _ _ _ _ _ hl
  · have hl : l6 ≤ 1024 := by omega
    by_cases e1 : share.toList = []
    · cases mx
      · exact form_nomax0 name pol share rc to a6 l6 c6 a7 l7 c7 w hl e1
      · exact form_max0 name pol share rc to a6 l6 c6 ss a7 l7 c7 zs w hl hk hz e1
    · have e4 : share.toList.isEmpty = false := by simpa using e1
      by_cases e2 : share.toList = [99, 112, 117]
      · have e3 : (share.toList == [99, 112, 117]) = true := by simpa using e2
        cases mx
        · exact form_nomax1 name pol share rc to a6 l6 c6 a7 l7 c7 w hl e3 e4
        · exact form_max1 name pol share rc to a6 l6 c6 ss a7 l7 c7 zs w hl hk hz e3 e4
      · have e3 : (share.toList == [99, 112, 117]) = false := by simpa using e2
        cases mx
        · exact form_nomax2 name pol share rc to a6 l6 c6 a7 l7 c7 w hl e3 e4
        · exact form_max2 name pol share rc to a6 l6 c6 ss a7 l7 c7 zs w hl hk hz e3 e4

set_option maxRecDepth 100000 in
theorem form_lifted (os : Os) (started : os.Started) (H : Type) (enc : TypeId × Value → H) :
    ReturnsInHanded {} Yba.checked os 3 .any (Rows.lawS3485BFormSpec.pre6 enc Yba.prog Yba.f3 Rows.lawS3485BFormRow.domain false) (Rows.lawS3485BFormSpec.post enc Yba.prog Yba.f3 false true false false) := by
  refine returnsInHanded_of_change (C := Yba.checked) form_own started (by kernel_rfl) Yba.func3
    (ChangeSpec.witness6 (enc := enc) (C := Yba.checked) false ⟨#[], #[.string ByteArray.empty, .string ByteArray.empty, .string ByteArray.empty, .bool false, .int .i64 0, .bool false, .slice none 0 0, .slice none 0 0], []⟩ 8 (by kernel_rfl) (by kernel_rfl) (by kernel_rfl) (by kernel_rfl)) ?_
  intro W base args ds gs before hval0 hW hcnd _
  have hval : ∀ (j : Nat) t v, Yba.f3.params[j]? = some t → args[j]? = some v → Value.okWide Yba.prog W .any base t v := hval0
  have hW' := hW
  obtain ⟨p, q, hA0, hV, rfl, hfz, hnd⟩ := hW
  have hA : DataW.TrodAll enc Yba.prog W 0 (fun _ => true) true Yba.f3.params.toList args.toList ds p := hA0
  rw [Yba.params3] at hA hval
  obtain ⟨v0, vs0, d0, ds0, p0, q0, hargs, rfl, rfl, h0, r0⟩ := trodAll_cons hA
  obtain ⟨v1, vs1, d1, ds1, p1, q1, rfl, rfl, rfl, h1, r1⟩ := trodAll_cons r0
  obtain ⟨v2, vs2, d2, ds2, p2, q2, rfl, rfl, rfl, h2, r2⟩ := trodAll_cons r1
  obtain ⟨v3, vs3, d3, ds3, p3, q3, rfl, rfl, rfl, h3, r3⟩ := trodAll_cons r2
  obtain ⟨v4, vs4, d4, ds4, p4, q4, rfl, rfl, rfl, h4, r4⟩ := trodAll_cons r3
  obtain ⟨v5, vs5, d5, ds5, p5, q5, rfl, rfl, rfl, h5, r5⟩ := trodAll_cons r4
  obtain ⟨v6, vs6, d6, ds6, p6, q6, rfl, rfl, rfl, h6, r6⟩ := trodAll_cons r5
  obtain ⟨v7, vs7, d7, ds7, p7, q7, rfl, rfl, rfl, h7, r7⟩ := trodAll_cons r6
  obtain ⟨rfl, rfl, rfl⟩ := trodAll_nil r7
  obtain rfl : args = #[v0, v1, v2, v3, v4, v5, v6, v7] := by cases args; simp_all
  obtain ⟨rfl, rfl⟩ := trodVars_none hV
  obtain ⟨name, rfl, rfl, rfl, s0⟩ := open_string Yba.underlying9 (hval 0 9 v0 rfl rfl) h0
  obtain ⟨pol, rfl, rfl, rfl, s1⟩ := open_string Yba.underlying9 (hval 1 9 v1 rfl rfl) h1
  obtain ⟨share, rfl, rfl, rfl, s2⟩ := open_string Yba.underlying9 (hval 2 9 v2 rfl rfl) h2
  obtain ⟨rc, rfl, rfl, rfl⟩ := open_bool Yba.underlying4 (hval 3 4 v3 rfl rfl) h3
  obtain ⟨to, rfl, rfl, rfl, w4⟩ := open_int Yba.underlying2 (hval 4 2 v4 rfl rfl) h4
  obtain ⟨mx, rfl, rfl, rfl⟩ := open_bool Yba.underlying4 (hval 5 4 v5 rfl rfl) h5
  obtain ⟨a6, len6, cap6, rfl⟩ := okWide_slice Yba.underlying22 (hval 6 22 v6 rfl rfl)
  have k6 := h6
  have lt6 : ∀ x ∈ p6, x.block < W.heap.size := by obtain ⟨m, hm⟩ := k6; exact DataW.trod_lt m _ _ _ hm
  obtain ⟨ss, w6⟩ : ∃ ss, KeysAt W a6 len6 ss := by
    obtain ⟨fuel, hf⟩ := h6
    rcases open_strings Yba.underlying22 Yba.underlying9 (by kernel_rfl) hf with ⟨hcs, _⟩ | ⟨x, l, c, ss, hcs, _, hl, hm, hz, _, hcell, hws⟩
    · simp [Value.cells] at hcs
      obtain ⟨rfl, rfl, rfl⟩ := hcs
      exact ⟨[], fun k hk => absurd hk (by omega)⟩
    · simp [Value.cells] at hcs
      obtain ⟨rfl, rfl, rfl⟩ := hcs
      simp only [if_true] at hz
      refine ⟨ss, fun k hk => ?_⟩
      obtain ⟨b, off, spot⟩ := x
      have hspot : spot = none := by simpa [Addr.add] using World.cell?_spot (hcell 0 (by omega))
      subst hspot
      have hmem : ss.getD k ByteArray.empty ∈ ss := by
        rw [List.getD_eq_getElem?_getD, List.getElem?_eq_getElem (show k < ss.length by omega)]; exact List.getElem_mem _
      exact ⟨b, off, rfl, by rw [← add_plain]; exact hcell k (by omega), hws _ hmem⟩
  obtain ⟨a7, len7, cap7, rfl⟩ := okWide_slice Yba.underlying23 (hval 7 23 v7 rfl rfl)
  have k7 := h7
  have lt7 : ∀ x ∈ p7, x.block < W.heap.size := by obtain ⟨m, hm⟩ := k7; exact DataW.trod_lt m _ _ _ hm
  obtain ⟨zs, w7⟩ : ∃ zs, ValsAt W a7 len7 zs := by
    obtain ⟨fuel, hf⟩ := h7
    rcases open_ints Yba.underlying23 Yba.underlying2 (by kernel_rfl) hf with ⟨hcs, _⟩ | ⟨x, l, c, zs, hcs, _, hl, hm, hz, _, hcell, hwz⟩
    · simp [Value.cells] at hcs
      obtain ⟨rfl, rfl, rfl⟩ := hcs
      exact ⟨[], fun k hk => absurd hk (by omega)⟩
    · simp [Value.cells] at hcs
      obtain ⟨rfl, rfl, rfl⟩ := hcs
      simp only [if_true] at hz
      refine ⟨zs, fun k hk => ?_⟩
      obtain ⟨b, off, spot⟩ := x
      have hspot : spot = none := by simpa [Addr.add] using World.cell?_spot (hcell 0 (by omega))
      subst hspot
      have hmem : zs.getD k 0 ∈ zs := by
        rw [List.getD_eq_getElem?_getD, List.getElem?_eq_getElem (show k < zs.length by omega)]; exact List.getElem_mem _
      exact ⟨b, off, rfl, by rw [← add_plain]; exact hcell k (by omega), hwz _ hmem⟩
  clear hA0 hval0
  refine (form_any name pol share rc to mx a6 len6 cap6 ss a7 len7 cap7 zs W w6 w7).mono fun e W' ⟨he, bel⟩ => ?_
  subst he
  exact ⟨_, rfl, _, _, _, [], _, [], hW', trodAll_mk1 (shut_bool Yba.underlying4 _),
    (trodAll_cons_mk (shut_string Yba.underlying9 s0) (trodAll_cons_mk (shut_string Yba.underlying9 s1) (trodAll_cons_mk (shut_string Yba.underlying9 s2) (trodAll_cons_mk (shut_bool Yba.underlying4 _) (trodAll_cons_mk (shut_int Yba.underlying2 w4) (trodAll_cons_mk (shut_bool Yba.underlying4 _)
      (trodAll_cons_mk (Below.trod form_laidOut (by kernel_rfl) (of_decide_eq_true (by kernel_rfl)) k6 bel lt6) (trodAll_cons_mk (Below.trod form_laidOut (by kernel_rfl) (of_decide_eq_true (by kernel_rfl)) k7 bel lt7) trodAll_mk0)))))))), rfl, bel.frame _, fun h => by cases h⟩

theorem form_over : Rows.lawS3485BFormRow.holds Yba.pinned (OpenSpec.ofChange Rows.lawS3485BFormSpec) :=
  OpenClaim.holds_of_wide 3 Yba.f3 rfl rfl rfl rfl rfl rfl rfl ⟨rfl, rfl, rfl, rfl, rfl⟩ rfl rfl rfl rfl rfl (by kernel_rfl) Yba.func3 (by kernel_rfl)
    (of_decide_eq_true (by kernel_rfl)) (by unfold Func.isWrapper; first | (rw [if_pos (by decide +kernel)]; kernel_rfl) | (rw [if_neg (by decide +kernel)]; exact ⟨rfl, rfl⟩))
    (fun os started H enc _ => form_lifted os started H enc)

/-- THE STATEMENT -/
theorem lawS3485BForm_proved : Rows.LawS3485BFormSaid := form_over
end Go.Proofs.Ybulkbtdo
