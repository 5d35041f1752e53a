/-
  LEAVES OF 'workload.LawS3485BRoundTrip': named.Valid, named.Check, checkTime, checkAmounts, on the roads that bring no error.
-/
import Derived.Test.YbulkbtdoFmtRows
import Derived.Test.YbulkbtdoFmtShelf
import Derived.WalkKit
import Derived.WalkSpells
import Derived.WalkLawsBesides
import Derived.Laws.IdiomStrings
import Derived.Maps.Own
import Derived.Maps.OwnOps
import Derived.Maps.OwnSet
import Derived.Maps.RangeWalk
namespace Go.Proofs.YbulkbtdoFmt
open Go.RowKit Go.Maps Go.WideMaps

/-- every byte of s is a letter -/
def Letters (s : ByteArray) : Prop := ∀ j, j < s.size → (65 ≤ ((s.data.toList.getD j 0).toNat : Int) ∧ ((s.data.toList.getD j 0).toNat : Int) ≤ 90) ∨ (97 ≤ ((s.data.toList.getD j 0).toNat : Int) ∧ ((s.data.toList.getD j 0).toNat : Int) ≤ 122)

theorem conv_bytes (s : ByteArray) (w : World) : ∃ c w1, (convert 9 22 (.string s)).run Ybaf.prog w = .ok (.slice (some ⟨w.heap.size, 0, none⟩) s.size c) w1 ∧ Below w.heap.size w w1 ∧
    ∀ j, j < s.size → w1.cell? ⟨w.heap.size, j, none⟩ = some (.int .u8 ((s.data.toList.getD j 0).toNat : Int)) := by
  refine ⟨_, _, run_bytes_of_string w 9 22 5 s Ybaf.underlying9 Ybaf.underlying22 Ybaf.underlying5, ?_, ?_⟩
  · exact ((Below.refl _ _).drew).alloc (Nat.le_refl _) _
  · intro j hj
    have hj' : j < s.data.size := hj
    refine (World.cell?_alloc_mark w.drew (bytesRow s (grownCap w s.size 0 5)) 5 _ j).trans ?_
    unfold bytesRow
    rw [Array.getElem?_append_left (by simpa using hj')]
    simp [List.getD_eq_getElem?_getD, Array.getElem?_eq_getElem hj']
set_option maxHeartbeats 400000 in
set_option maxRecDepth 100000 in
theorem valid_any (s : ByteArray) (w : World) (h0 : s.toList.isEmpty = false) (h1 : s.size ≤ 317) (hl : Letters s) :
    Calls Ybaf.prog 15 #[.string s] w fun e w' => e = .returned (.bool true) ∧ Below w.heap.size w w' := by
  obtain ⟨c, w1, hconv, hbel, hcells⟩ := conv_bytes s w
  go_enter Ybaf.func15, Ybaf.ntmps15
  go_wp2
  go_loop [15] (fun i => ∃ k : Nat, k ≤ s.size ∧ i = .int .i64 k) (fun i => s.size - (intOf i).toNat)
  case atStart => exact ⟨0, Nat.zero_le _, rfl⟩
  case round =>
    obtain ⟨k, hk, rfl⟩ := hrel
    by_cases hlt : k < s.size
    · have hx := hl k hlt
      have hc := hcells k hlt
      obtain ⟨x, hxx⟩ : ∃ x : Int, x = ((s.data.toList.getD k 0).toNat : Int) := ⟨_, rfl⟩
      rw [← hxx] at hx hc
      clear hxx hconv hcells
      rcases hx with ⟨hx1, hx2⟩ | ⟨hx1, hx2⟩
      all_goals
        go_wp2
        go_round
        case rel => exact ⟨k + 1, by omega, by go_num⟩
        case measure => simp [intOf]; omega
    · go_wp2
      go_ret
      exact ⟨rfl, hbel⟩

theorem runes_ok (s : ByteArray) (hl : Letters s) : Lib.runeCount s = s.size := by
  apply Lib.runeCount_ascii
  intro j hj
  have := hl j hj
  have e : s.data.toList.getD j 0 = s[j]'hj := by
    have hj' : j < s.data.size := hj
    simp [List.getD_eq_getElem?_getD, Array.getElem?_eq_getElem hj']; rfl
  rw [e] at this
  omega
set_option maxHeartbeats 400000 in
set_option maxRecDepth 100000 in
theorem check_any (f s : ByteArray) (w : World) (h0 : s.toList.isEmpty = false) (hp : 0 < s.size) (h1 : s.size ≤ 317) (hl : Letters s) :
    Calls Ybaf.prog 6 #[.string f, .string s] w fun e w' => e = .returned .nilIface ∧ Below w.heap.size w w' := by
  have hr := runes_ok s hl
  go_enter Ybaf.func6, Ybaf.ntmps6
  go_wp2_with (first
    | (go_at_call 14; refine (Ybaf.utf8_RuneCountInString s _ (by omega)).mono ?_; rintro e w1 ⟨rfl, pos, rfl⟩)
    | (go_at_call 15; refine (valid_any s _ h0 h1 hl).mono ?_; rintro e w2 ⟨rfl, hb⟩))
  go_ret
  have hb0 : Below w.heap.size w (w.iter s pos) := (Below.refl _ w).alloc (Nat.le_refl _) _
  exact ⟨rfl, hb0.trans (hb.mono hb0.size)⟩
set_option maxRecDepth 100000 in
theorem time_any (f : ByteArray) (a : Addr) (t : Int) (w : World) (ht : 0 ≤ t) (hc : w.cell? a = some (.int .i64 t)) :
    Calls Ybaf.prog 12 #[.string f, .pointer (some a)] w fun e w' => e = .returned .nilIface ∧ w' = w := by
  go_enter Ybaf.func12, Ybaf.ntmps12
  go_wp2
  go_ret
  exact ⟨rfl, rfl⟩

/-- the reader of the map's elements: an int64 that is not negative -/
def nonneg : Value → Option (DataW Unit × List MemPlace)
  | .int .i64 a => if 0 ≤ a ∧ (Lit.int .i64 a).wf = true then some (.lit (.int .i64 a), []) else none
  | _ => none
theorem nonneg_mk {a : Int} (h : 0 ≤ a) (hw : (Lit.int .i64 a).wf = true) : nonneg (.int .i64 a) = some (.lit (.int .i64 a), []) := by
  show (if 0 ≤ a ∧ (Lit.int .i64 a).wf = true then _ else _) = _
  rw [if_pos ⟨h, hw⟩]
theorem nonneg_inv {v : Value} {z : DataW Unit × List MemPlace} (h : nonneg v = some z) : ∃ a : Int, v = .int .i64 a ∧ z = (.lit (.int .i64 a), []) ∧ 0 ≤ a := by
  unfold nonneg at h
  split at h
  · rename_i a
    split at h
    · rename_i hc
      exact ⟨a, rfl, (Option.some.inj h).symm, hc.1⟩
    · cases h
  · cases h
theorem law9 : Keyed Ybaf.prog 9 := string_keyed Ybaf.underlying9
theorem zero2 (w : World) : (zeroValue 2).run Ybaf.prog w = .ok (.int .i64 0) w := by kernel_rfl
theorem eqlMap28 (m : Option Nat) (w : World) : (binOp .eql 28 (.map m) (.map none)).run Ybaf.prog w = .ok (.bool (m.isNone)) w := Go.run_eql_map_nil w 28 9 2 m Ybaf.underlying28
theorem neqMap28 (m : Option Nat) (w : World) : (binOp .neq 28 (.map m) (.map none)).run Ybaf.prog w = .ok (.bool (!m.isNone)) w := Go.run_neq_map_nil w 28 9 2 m Ybaf.underlying28
/-- block 'B' is a map string → int64 that reads as D, no element negative -/
def Owns (w : World) (B n : Nat) (D : DataW Unit) : Prop := w.ownsMap Ybaf.prog 9 nonneg B n D

theorem keyOf_string_inv {key : Value} {kl : Lit} (h : keyOf Ybaf.prog 9 key = some kl) : ∃ s, key = .string s := by
  cases key <;> simp [keyOf, Ybaf.underlying9, mapKey] at h
  exact ⟨_, rfl⟩

set_option maxHeartbeats 400000 in
set_option maxRecDepth 100000 in
theorem amounts_any (f : ByteArray) (B n : Nat) (D : DataW Unit) (w : World) (hown : Owns w B n D) :
    Calls Ybaf.prog 13 #[.string f, .map (some B)] w fun e w' => e = .returned .nilIface ∧ Below w.heap.size w w' := by
  have h1 := eqlMap28
  go_enter Ybaf.func13, Ybaf.ntmps13
  go_wp2_with (first
    | (at_range; refine wpList_range_own _ rfl _ 28 rfl 9 2 law9 Ybaf.underlying28 _ B n _ rfl hown ?_; intro w0 hrg0 hg0 hs0)
    | go_in)
  go_frame
  go_loopw [5, 7] (fun s5 _ wr => s5 = .slice none 0 0 ∧ ∃ (left : Lit → Bool) (cnt : Nat), wr.ranges Ybaf.prog 9 nonneg B w.heap.size n D left cnt ∧ Below w.heap.size w wr)
    (fun _ _ wr => wr.rangeLeft B w.heap.size)
  case atStart => exact ⟨rfl, _, _, hrg0, (Below.refl _ _).grown hg0 (Nat.le_refl _) (fun j hj => by cases hj)⟩
  case round =>
    obtain ⟨rfl, left, cnt, hrg, hbel⟩ := hrel
    go_wp2_with (first
      | (at_next; refine wpList_next_ranges _ rfl _ rfl 9 law9 nonneg Value.string (Value.int .i64) (fun key kl hk => keyOf_string_inv hk) (fun v y hv => by obtain ⟨c, rfl, _⟩ := nonneg_inv hv; exact ⟨c, rfl⟩) B w.heap.size n _ _ _ rfl hrg ?_ ?_)
      | go_in)
    · intro _ hl0
      go_wp2
      go_ret
      exact ⟨rfl, hbel⟩
    · intro x c kl y ps w1 cnt1 hkey hlk hv hat hrg1 hlt hg1 hs1 hen
      have hc : 0 ≤ c := by
        obtain ⟨c', e, _, h⟩ := nonneg_inv hv
        injection e with _ e
        omega
      have R1 := hbel.grown hg1 hbel.size (fun j hj => by cases hj; exact Nat.le_refl _)
      clear hkey hlk hv hat hg1 hs1
      go_wp2
      go_roundw
      case rel => exact ⟨rfl, _, cnt1, hrg1, R1⟩
      case measure => rw [hrg1.left_eq, hrg.left_eq]; exact hlt
end Go.Proofs.YbulkbtdoFmt
