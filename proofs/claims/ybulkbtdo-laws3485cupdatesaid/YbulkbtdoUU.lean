/-
  'Rows.LawS3485CUpdateSaid', PROVED.
-/
import Derived.Test.YbulkbtdoUT
import Derived.ProofKit
import Derived.OpenShut
import Derived.ChangeOld
import Derived.Below
import Derived.Deep.Slices
namespace Go.Proofs.Ybulkbtdo.U
open Go.ChangeShapes Go.WideShapes Go.ChangeAt Go.RowKit

theorem own : ownKnob Yba.prog.godebug = none := by kernel_rfl
theorem laidOut : laidOutB Yba.prog = true := by kernel_rfl
/-- one row of the raw input -/
theorem row_at {H : Type} {enc : TypeId × Value → H} {W : World} {fuel : Nat} {v : Value} {d : DataW H × List MemPlace} (h : DataW.trod enc Yba.prog W 0 (fun _ => true) true fuel 67 [v] = some d) :
    ∃ (q : Option Addr × Nat × Nat × (Nat → Nat)), v = .slice q.1 q.2.1 q.2.2.1 ∧ q.2.1 ≤ 9223372036854775807 ∧ ∀ j, j < q.2.1 → ∃ g o, q.1 = some ⟨g, o, none⟩ ∧ W.cell? ⟨g, o + j, none⟩ = some (.int .u16 (q.2.2.2 j : Int)) ∧ q.2.2.2 j ≤ 65535 := by
  rcases open_ints Yba.underlying67 Yba.underlying60 (by kernel_rfl) h with ⟨hcs, _⟩ | ⟨x, l, c, zs, hcs, _, hl, hm, hz, _, hcell, hwz⟩
  · simp at hcs
    subst hcs
    exact ⟨(none, 0, 0, fun _ => 0), rfl, by show 0 ≤ 9223372036854775807; decide, fun k hk => absurd hk (by simp)⟩
  · simp at hcs
    subst hcs
    simp only [if_true] at hz
    unfold maxLen at hm
    refine ⟨(some x, l, c, fun k => (zs.getD k 0).toNat), rfl, by simp; omega, fun k hk => ?_⟩
    have hk' : k < l := hk
    obtain ⟨b, off, spot⟩ := x
    have hspot : spot = none := by simpa [Addr.add] using World.cell?_spot (hcell 0 (by omega))
    subst hspot
    have hmem : zs.getD k 0 ∈ zs := by
      rw [List.getD_eq_getElem?_getD, List.getElem?_eq_getElem (show k < zs.length by omega)]; exact List.getElem_mem _
    have hb := bounds_u16 (hwz _ hmem)
    refine ⟨b, off, rfl, ?_, by show (zs.getD k 0).toNat ≤ 65535; omega⟩
    rw [← add_at, hcell k (by omega)]
    congr 2
    show zs.getD k 0 = ((zs.getD k 0).toNat : Int)
    omega
theorem raw_at {H : Type} {enc : TypeId × Value → H} {W : World} {a : Option Addr} {len cap : Nat} {d : DataW H} {p : List MemPlace} (h : DataW.Trod enc Yba.prog W 0 (fun _ => true) true 42 (.slice a len cap) d p) :
    ∃ ra rl rc x, RawAt W a len ra rl rc ∧ U16At W len ra rl x ∧ len ≤ 9223372036854775807 ∧ ∀ i, i < len → rl i ≤ 9223372036854775807 := by
  obtain ⟨fuel, hf⟩ := h
  rcases Deep.open_slice1 Yba.underlying42 (by kernel_rfl) hf with ⟨hcs, _⟩ | ⟨x, l, c, m, n, V, D, Pl, hcs, _, hl, hm, hmm, _, hx⟩
  · simp [Value.cells] at hcs
    obtain ⟨rfl, rfl, rfl⟩ := hcs
    exact ⟨fun _ => none, fun _ => 0, fun _ => 0, fun _ _ => 0, fun i hi => absurd hi (by omega), fun i hi => absurd hi (by omega), by omega, fun i hi => absurd hi (by omega)⟩
  · simp [Value.cells] at hcs
    obtain ⟨rfl, rfl, rfl⟩ := hcs
    simp only [if_true] at hmm
    unfold maxLen at hm
    obtain ⟨q, hq⟩ := Deep.choose_lt (fun i (hi : i < m) => row_at (hx i hi).2)
    have hsp : ∀ i, i < m → ∃ b o, x = ⟨b, o, none⟩ := fun i hi => by
      obtain ⟨b, off, spot⟩ := x
      have hspot : spot = none := by simpa [Addr.add] using World.cell?_spot (hx 0 (by omega)).1
      exact ⟨b, off, by rw [hspot]⟩
    refine ⟨fun i => (q i).1, fun i => (q i).2.1, fun i => (q i).2.2.1, fun i => (q i).2.2.2, fun i hi => ?_, fun i hi j hj => (hq i (by omega)).2.2 j hj, by omega, fun i hi => (hq i (by omega)).2.1⟩
    obtain ⟨b, o, hbo⟩ := hsp i (by omega)
    refine ⟨b, o, by rw [hbo], ?_⟩
    have h1 := (hx i (by omega)).1
    rw [hbo, add_at, (hq i (by omega)).1] at h1
    exact h1
theorem in_at {H : Type} {enc : TypeId × Value → H} {W : World} {a : Option Addr} {len cap : Nat} {d : DataW H} {p : List MemPlace} (h : DataW.Trod enc Yba.prog W 0 (fun _ => true) true 43 (.slice a len cap) d p) :
    ∃ b, InAt W a len b ∧ len ≤ 9223372036854775807 := by
  obtain ⟨fuel, hf⟩ := h
  rcases Deep.open_slice1 Yba.underlying43 (by kernel_rfl) hf with ⟨hcs, _⟩ | ⟨x, l, c, m, n, V, D, Pl, hcs, _, hl, hm, hmm, _, hx⟩
  · simp [Value.cells] at hcs
    obtain ⟨rfl, rfl, rfl⟩ := hcs
    exact ⟨fun _ => false, fun i hi => absurd hi (by omega), by omega⟩
  · simp [Value.cells] at hcs
    obtain ⟨rfl, rfl, rfl⟩ := hcs
    simp only [if_true] at hmm
    unfold maxLen at hm
    obtain ⟨q, hq⟩ := Deep.choose_lt (α := Bool) (p := fun i b => V i = .bool b) (fun i (hi : i < m) => by
      obtain ⟨b, hb, _⟩ := DataW.trod_bool Yba.underlying4 (hx i hi).2
      exact ⟨b, by simpa using hb⟩)
    refine ⟨q, fun i hi => ?_, by omega⟩
    obtain ⟨b, off, spot⟩ := x
    have hspot : spot = none := by simpa [Addr.add] using World.cell?_spot (hx 0 (by omega)).1
    subst hspot
    have h1 := (hx i (by omega)).1
    rw [add_at, hq i (by omega)] at h1
    exact ⟨b, off, rfl, h1⟩

set_option maxRecDepth 100000 in
theorem lifted (os : Os) (started : os.Started) (H : Type) (enc : TypeId × Value → H) :
    ReturnsInHanded {} Yba.checked os 5 .any (Rows.lawS3485CUpdateSpec.pre6 enc Yba.prog Yba.f5 Rows.lawS3485CUpdateRow.domain false) (Rows.lawS3485CUpdateSpec.post enc Yba.prog Yba.f5 false true false false) := by
  refine returnsInHanded_of_change (C := Yba.checked) own started (by kernel_rfl) Yba.func5
    (ChangeSpec.witness6 (enc := enc) (C := Yba.checked) false ⟨#[], #[.slice none 0 0, .slice none 0 0, .bool false, .int .u16 0], []⟩ 8 (by kernel_rfl) (by kernel_rfl) (by kernel_rfl) (by kernel_rfl)) ?_
  intro W base args ds gs before hval0 hW _ _
  have hval : ∀ (j : Nat) t v, Yba.f5.params[j]? = some t → args[j]? = some v → Value.okWide Yba.prog W .any base t v := hval0
  have hW' := hW
  obtain ⟨p, q, hA0, hV, rfl, hfz, hnd⟩ := hW
  have hA : DataW.TrodAll enc Yba.prog W 0 (fun _ => true) true Yba.f5.params.toList args.toList ds p := hA0
  rw [Yba.params5] at hA hval
  obtain ⟨v0, vs0, d0, ds0, p0, q0, hargs, rfl, rfl, h0, r0⟩ := trodAll_cons hA
  obtain ⟨v1, vs1, d1, ds1, p1, q1, rfl, rfl, rfl, h1, r1⟩ := trodAll_cons r0
  obtain ⟨v2, vs2, d2, ds2, p2, q2, rfl, rfl, rfl, h2, r2⟩ := trodAll_cons r1
  obtain ⟨v3, vs3, d3, ds3, p3, q3, rfl, rfl, rfl, h3, r3⟩ := trodAll_cons r2
  obtain ⟨rfl, rfl, rfl⟩ := trodAll_nil r3
  obtain rfl : args = #[v0, v1, v2, v3] := by cases args; simp_all
  obtain ⟨rfl, rfl⟩ := trodVars_none hV
  obtain ⟨a0, len0, cap0, rfl⟩ := okWide_slice Yba.underlying42 (hval 0 42 v0 rfl rfl)
  obtain ⟨a1, len1, cap1, rfl⟩ := okWide_slice Yba.underlying43 (hval 1 43 v1 rfl rfl)
  obtain ⟨al, rfl, rfl, rfl⟩ := open_bool Yba.underlying4 (hval 2 4 v2 rfl rfl) h2
  obtain ⟨z3, rfl, rfl, rfl, wz3⟩ := open_int Yba.underlying60 (hval 3 60 v3 rfl rfl) h3
  have lt0 : ∀ x ∈ p0, x.block < W.heap.size := by obtain ⟨m, hm⟩ := h0; exact DataW.trod_lt m _ _ _ hm
  have lt1 : ∀ x ∈ p1, x.block < W.heap.size := by obtain ⟨m, hm⟩ := h1; exact DataW.trod_lt m _ _ _ hm
  obtain ⟨ra, rl, rc, x, k1, k2, k3, k4⟩ := raw_at h0
  obtain ⟨b, k5, k6⟩ := in_at h1
  obtain ⟨fl, rfl⟩ : ∃ fl : Nat, z3 = (fl : Int) := ⟨z3.toNat, by have := bounds_u16 wz3; omega⟩
  have hfl : fl ≤ 65535 := by have := bounds_u16 wz3; omega
  clear hA0 hval0
  refine (update_any a0 len0 cap0 ra rl rc x a1 len1 cap1 b al fl W k1 k2 k5 k6 k3 k4 hfl).mono fun e W' ⟨he, hnew⟩ => ?_
  have bel := New.below hnew
  subst he
  exact ⟨_, rfl, _, _, _, [], _, [], hW', trodAll_mk1 (shut_bool Yba.underlying4 _), (trodAll_cons_mk (Below.trod laidOut (by kernel_rfl) (of_decide_eq_true (by kernel_rfl)) h0 bel lt0) (trodAll_cons_mk (Below.trod laidOut (by kernel_rfl) (of_decide_eq_true (by kernel_rfl)) h1 bel lt1) (trodAll_cons_mk (shut_bool Yba.underlying4 _) (trodAll_cons_mk (shut_int Yba.underlying60 wz3) trodAll_mk0)))), rfl, bel.frame _, fun h => by cases h⟩

/-- THE STATEMENT -/
theorem lawS3485CUpdate_proved : Rows.LawS3485CUpdateSaid :=
  OpenClaim.holds_of_wide 5 Yba.f5 rfl rfl rfl rfl rfl rfl rfl ⟨rfl, rfl, rfl, rfl, rfl⟩ rfl rfl rfl rfl rfl (by kernel_rfl) Yba.func5 (by kernel_rfl)
    (of_decide_eq_true (by kernel_rfl)) (by unfold Func.isWrapper; first | (rw [if_pos (by decide +kernel)]; kernel_rfl) | (rw [if_neg (by decide +kernel)]; exact ⟨rfl, rfl⟩))
    (fun os started H enc _ => lifted os started H enc)
end Go.Proofs.Ybulkbtdo.U
