/-
  ROWS THAT THE CALL OWNS, SEVERAL AT A TIME; the two 'append a line' functions.
-/
import Derived.Test.YbulkbtkaDoorRows
import Derived.Test.YbulkbtkaDoorShelf
import Derived.WalkKit
import Derived.WalkSpells
import Derived.WalkLawsBesides
import Derived.RegionTactic
import Derived.BigRegion
import Derived.Deep.QuietTactic
import Derived.BigQuiet
import Derived.Deep.DeepCutAuto
import Derived.Deep.AppendLies
import Derived.Deep.Upon
import Derived.Lib.AppendStr
import Derived.Lib.SmallJoins
namespace Go.Proofs.YbulkbtkaDoor
open Go.RowKit

abbrev Bytes := List UInt8

/-- what a slice that the call owns may do from w to w': only its own row, and new blocks -/
def Step (w : World) (v : Value) (w' : World) (v' : Value) : Prop :=
  w.grownBy w' v.ownBlock ∧ (v'.ownBlock = v.ownBlock ∨ ∃ k, v'.ownBlock = some k ∧ w.heap.size ≤ k)
theorem grown_refl' (w : World) (r : Option Nat) : w.grownBy w r := ⟨rfl, rfl, rfl, Nat.le_refl _, fun _ _ _ => rfl⟩
theorem Step.refl (w : World) (v : Value) : Step w v w v := ⟨grown_refl' _ _, .inl rfl⟩
theorem grown_alloc' (w : World) (r : Option Nat) (o : Obj) : w.grownBy (w.alloc o) r := by
  have h := World.grownBy_alloc w o none
  exact ⟨h.os, h.tape, h.output, h.size, fun i hi _ => h.block i hi (by simp)⟩
theorem Step.trans {w w1 w2 : World} {v v1 v2 : Value} (h : Step w v w1 v1) (k : Step w1 v1 w2 v2) : Step w v w2 v2 := by
  obtain ⟨g1, o1⟩ := h
  obtain ⟨g2, o2⟩ := k
  refine ⟨⟨g2.os.trans g1.os, g2.tape.trans g1.tape, g2.output.trans g1.output, Nat.le_trans g1.size g2.size, fun i hi hne => (g2.block i (Nat.lt_of_lt_of_le hi g1.size) ?_).trans (g1.block i hi hne)⟩, ?_⟩
  · rcases o1 with o1 | ⟨k, o1, hk⟩
    · rw [o1]; exact hne
    · rw [o1]; intro e; cases e; omega
  · have hs := g1.size
    rcases o2 with o2 | ⟨k, o2, hk⟩
    · rcases o1 with o1 | ⟨k, o1, hk⟩
      · exact .inl (o2.trans o1)
      · exact .inr ⟨k, o2.trans o1, hk⟩
    · exact .inr ⟨k, o2, by omega⟩
theorem Step.alloc {w w1 : World} {v v1 : Value} (h : Step w v w1 v1) (o : Obj) : Step w v (w1.alloc o) v1 := h.trans ⟨grown_alloc' _ _ _, .inl rfl⟩
/-- the call's row of bytes -/
def Own (w : World) (B : Nat) (v : Value) (L : Bytes) : Prop := w.ownsRow B 5 1 v L.length (Lib.byteCells L)
theorem Own.alloc {w : World} {B : Nat} {v : Value} {L : Bytes} (h : Own w B v L) (o : Obj) : Own (w.alloc o) B v L := World.ownsRow.alloc h o
/-- another block is as it was -/
theorem Step.cell {w w' : World} {v v' : Value} (h : Step w v w' v') {g j : Nat} {u : Value} (hne : some g ≠ v.ownBlock) (hc : w.cell? ⟨g, j, none⟩ = some u) : w'.cell? ⟨g, j, none⟩ = some u :=
  h.1.cell hc hne

theorem info5 : ∃ i, Ybad.prog.info? 5 = some i ∧ i.zero = some (.int .u8 0) ∧ i.size = 1 ∧ i.bytes = 1 := by
  have h : (Ybad.prog.info? 5).map (fun i => (i.zero, i.size, i.bytes)) = some (some (.int .u8 0), 1, 1) := by kernel_rfl
  cases hx : Ybad.prog.info? 5 with
  | none => rw [hx] at h; cases h
  | some i =>
    rw [hx] at h
    simp only [Option.map_some, Option.some.injEq, Prod.mk.injEq] at h
    exact ⟨i, rfl, h.1, h.2.1, h.2.2⟩
theorem info22 : ∃ i, Ybad.prog.info? 22 = some i ∧ i.zero = some (.slice none 0 0) ∧ i.size = 1 ∧ i.bytes = 24 := by
  have h : (Ybad.prog.info? 22).map (fun i => (i.zero, i.size, i.bytes)) = some (some (.slice none 0 0), 1, 24) := by kernel_rfl
  cases hx : Ybad.prog.info? 22 with
  | none => rw [hx] at h; cases h
  | some i =>
    rw [hx] at h
    simp only [Option.map_some, Option.some.injEq, Prod.mk.injEq] at h
    exact ⟨i, rfl, h.1, h.2.1, h.2.2⟩
theorem info31 : ∃ i, Ybad.prog.info? 31 = some i ∧ i.zero = some (.agg #[.int .i64 0, .int .i64 0, .int .i64 0, .int .i64 0]) ∧ i.size = 4 ∧ i.bytes = 32 := by
  have h : (Ybad.prog.info? 31).map (fun i => (i.zero, i.size, i.bytes)) = some (some (.agg #[.int .i64 0, .int .i64 0, .int .i64 0, .int .i64 0]), 4, 32) := by kernel_rfl
  cases hx : Ybad.prog.info? 31 with
  | none => rw [hx] at h; cases h
  | some i =>
    rw [hx] at h
    simp only [Option.map_some, Option.some.injEq, Prod.mk.injEq] at h
    exact ⟨i, rfl, h.1, h.2.1, h.2.2⟩

theorem add_at (g o j : Nat) : (⟨g, o, none⟩ : Addr).add j = ⟨g, o + j, none⟩ := by unfold Addr.add; split <;> simp_all
/-- the bytes that a slice reads: nil or cells -/
def Reads (w : World) (x : Value) (M : Bytes) : Prop :=
  ∃ c, (M = [] ∧ x = .slice none 0 c) ∨ ∃ g o, x = .slice (some ⟨g, o, none⟩) M.length c ∧ ∀ j u, (Lib.byteCells M)[j]? = some u → w.cell? ⟨g, o + j, none⟩ = some u
theorem byteCells_one (M : Bytes) : ∀ u ∈ Lib.byteCells M, u.oneCell' = true := by
  intro u hu
  unfold Lib.byteCells at hu
  obtain ⟨b, _, rfl⟩ := List.mem_map.1 hu
  rfl
/-- append bytes out of a slice -/
theorem app22 (ty : TypeId) {w : World} {B : Nat} {v : Value} {L : Bytes} (h : Own w B v L) (hB : B ≤ w.heap.size) {x : Value} {M : Bytes} (hx : Reads w x M) (hl : L.length + M.length ≤ 1000000) :
    ∃ v' w', (Builtin.append_ #[22, 22] ty #[v, x]).run Ybad.prog w = .ok v' w' ∧ Own w' B v' (L ++ M) ∧ Step w v w' v' := by
  obtain ⟨i, hi, hz, hs, hby⟩ := info5
  have hm : L.length + M.length ≤ maxLen := by unfold maxLen; omega
  obtain ⟨c, ⟨rfl, rfl⟩ | ⟨g, o, rfl, hc⟩⟩ := hx
  · rw [List.append_nil]
    rcases h.2 with ⟨rfl, h0⟩ | ⟨g, cap, cur, rfl, r⟩
    · refine ⟨_, w, run_append_nothing (P := Ybad.prog) w 22 22 ty 5 i Ybad.underlying22 hi none 0 0 (Nat.le_refl _) _ (Src.ofNil w Ybad.underlying22 c), h, Step.refl _ _⟩
    · exact ⟨_, w, run_append_nothing (P := Ybad.prog) w 22 22 ty 5 i Ybad.underlying22 hi (some ⟨g, 0, none⟩) L.length cap r.2.2.1 _ (Src.ofNil w Ybad.underlying22 c), h, Step.refl _ _⟩
  · obtain ⟨v', w', hr, ho, hg, _, hat⟩ := run_append_own_at (P := Ybad.prog) w B 22 ty 5 i (.int .u8 0) 1 1 Ybad.underlying22 hi hz hs hby rfl (by decide) v L.length _ h ⟨g, o, none⟩ M.length c (Lib.byteCells M)
      (by rw [Lib.byteCells_length, Nat.mul_one]) (fun j u hj => by rw [add_at]; exact hc j u hj) (byteCells_one M) hm (by omega) hB
    refine ⟨v', w', hr, ?_, hg, ?_⟩
    · unfold Own
      rw [List.length_append, Lib.byteCells_append]
      exact ho
    · rcases hat with e | e
      · exact .inl e
      · exact .inr ⟨_, e, Nat.le_refl _⟩
/-- append a string's bytes -/
theorem app9 (ty : TypeId) {w : World} {B : Nat} {v : Value} {L : Bytes} (h : Own w B v L) (hB : B ≤ w.heap.size) (s : ByteArray) (hl : L.length + s.size ≤ 1000000) :
    ∃ v' w', (Builtin.append_ #[22, 9] ty #[v, .string s]).run Ybad.prog w = .ok v' w' ∧ Own w' B v' (L ++ s.data.toList) ∧ Step w v w' v' := by
  obtain ⟨i, hi, hz, hs, hby⟩ := info5
  have hm : L.length + s.size ≤ maxLen := by unfold maxLen; omega
  obtain ⟨v', w', hr, ho, hg, _⟩ := Lib.run_append_own_string (P := Ybad.prog) w B 22 9 ty 5 i Ybad.underlying22 Ybad.underlying9 hi hz hs hby v L.length _ h s hm (by omega) hB
  have hsz : s.data.toList.length = s.size := by rw [Array.length_toList]; rfl
  refine ⟨v', w', hr, ?_, hg, ?_⟩
  · unfold Own
    rw [List.length_append, Lib.byteCells_append, hsz]
    exact ho
  · rcases h.2 with ⟨rfl, h0⟩ | ⟨g, cap, cur, rfl, hb, hgg, hn, hcm, hcs, htk⟩
    · rcases ho.2 with ⟨rfl, _⟩ | ⟨g, cap, cur, rfl, hb, hgg, _⟩
      · exact .inl rfl
      · refine .inr ⟨g, rfl, ?_⟩
        by_cases hlt : g < w.heap.size
        · exfalso
          by_cases h00 : s.size = 0
          · have hrn := run_append_nothing (P := Ybad.prog) w 22 9 ty 5 i Ybad.underlying22 hi none 0 0 (Nat.le_refl _) (.string s) (by
              have := Src.ofString (P := Ybad.prog) w Ybad.underlying9 s
              rw [hs]
              have e : Go.byteCells s = [] := List.eq_nil_of_length_eq_zero (by rw [Go.byteCells_length]; exact h00)
              rw [h00, e] at this
              exact this)
            rw [hrn] at hr
            cases hr
          · have hr2 := run_append_nil_string (P := Ybad.prog) w 22 9 ty 5 i (.int .u8 0) Ybad.underlying22 Ybad.underlying9 hi hz s (by omega) (by omega) (by rw [hby]; omega)
            rw [hr2] at hr
            injection hr with e1 e2
            injection e1 with e1
            injection e1 with e1
            injection e1 with e1
            omega
        · omega
    · by_cases hroom : L.length + s.size ≤ cap
      · have hr2 := Lib.run_append_room_string (P := Ybad.prog) w 22 9 ty 5 i Ybad.underlying22 Ybad.underlying9 hi hs g L.length cap cur hgg s hroom (by omega)
        rw [hr2] at hr
        injection hr with e1 e2
        subst e1
        exact .inl rfl
      · have hr2 := Lib.run_append_grow_string (P := Ybad.prog) w 22 9 ty 5 i (.int .u8 0) Ybad.underlying22 Ybad.underlying9 hi hz ⟨g, 0, none⟩ L.length cap (Lib.byteCells L) (by rw [Lib.byteCells_length, hs, Nat.mul_one]) (World.ownsRow.cells h rfl) s (by omega) (by omega) (by rw [hby]; exact growslice_fits (by omega) (by omega))
        rw [hr2] at hr
        injection hr with e1 e2
        subst e1
        exact .inr ⟨_, rfl, Nat.le_refl _⟩

/-- a step of the walk: an append whose run is known -/
theorem wpList_app {w : World} {ops : Array Oper} {rest : List Oper} {o : Oper} {a : Act} {Q : Exit → Act → World → Prop} (hgd : o.guard = none) (s x : Operand) (t tx : TypeId)
    (ho : o.op = .call { callee := .builtin .append, args := #[s, x], argTypes := #[t, tx] }) {v xv v' : Value} {w' : World} (hr : (Builtin.append_ #[t, tx] o.type #[v, xv]).run Ybad.prog w = .ok v' w')
    (hs : a.eval s = v) (hx : a.eval x = xv) (h : wpList Ybad.prog ops Q rest (a.put o.dst v') w') : wpList Ybad.prog ops Q (o :: rest) a w :=
  wpList_plain hgd fun _ hK => by
    unfold Oper.wp execOp
    simp only [ho, resolve, invoke, builtin, Sem.run_bind, Sem.run_pure, Result.andThen_ok, List.map_toArray, List.map_cons, List.map_nil, hs, hx, hr]
    exact hK _ _ h
end Go.Proofs.YbulkbtkaDoor
