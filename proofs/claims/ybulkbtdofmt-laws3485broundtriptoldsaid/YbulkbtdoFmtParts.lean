/-
  SMALL FACTS for the walk of 'workload.LawS3485BRoundTrip'.
-/
import Derived.Test.YbulkbtdoFmtForm
import Derived.Deep.DeepCutAuto
import Derived.Deep.DeepMust
namespace Go.Proofs.YbulkbtdoFmt
open Go.RowKit Go.Maps Go.WideMaps

/-- what is told of a slice of bytes -/
def BytesAt (w : World) (a : Option Addr) (len : Nat) (x : Nat → Int) : Prop :=
  ∀ k, k < len → ∃ b off, a = some ⟨b, off, none⟩ ∧ w.cell? ⟨b, off + k, none⟩ = some (.int .u8 (x k)) ∧ 0 ≤ x k ∧ x k ≤ 255
def ValsAt (w : World) (a : Option Addr) (len : Nat) (x : Nat → Int) : Prop :=
  ∀ k, k < len → ∃ b off, a = some ⟨b, off, none⟩ ∧ w.cell? ⟨b, off + k, none⟩ = some (.int .i64 (x k)) ∧ (Lit.int .i64 (x k)).wf = true
theorem idx22 {a : Option Addr} {b off len cap k : Nat} (ha : a = some ⟨b, off, none⟩) (hk : k < len) (w : World) :
    (Instr.indexAt 22 (.slice a len cap) (.int .i64 (k : Int))).run Ybaf.prog w = .ok (.pointer (some ⟨b, off + k, none⟩)) w := by
  subst ha
  have hs : (sizeOf 5).run Ybaf.prog w = .ok 1 w := by kernel_rfl
  rw [run_indexAt_slice _ _ _ _ _ _ _ Ybaf.underlying22]
  rw [if_pos (by omega)]
  show ((sizeOf 5).run Ybaf.prog w).andThen _ = _
  rw [hs]
  simp [Result.andThen, Addr.add]


theorem letter_at (x : Int) : ∃ (c : Int) (t : ByteArray), (∀ w, (Instr.index 9 (.string ⟨#[97, 98, 113, 122, 65, 66, 81, 90]⟩) (.int .i64 (x % 8))).run Ybaf.prog w = .ok (.int .u8 c) w) ∧
    (∀ w, (convert 5 9 (.int .u8 c)).run Ybaf.prog w = .ok (.string t) w) ∧ t.size = 1 ∧ Letters t := by
  have L : ∀ b : UInt8, ((65 ≤ (b.toNat : Int) ∧ (b.toNat : Int) ≤ 90) ∨ (97 ≤ (b.toNat : Int) ∧ (b.toNat : Int) ≤ 122)) → Letters ⟨#[b]⟩ := by
    intro b hb j hj
    have : j = 0 := by
      have h1 : j < 1 := hj
      omega
    subst this
    exact hb
  have h : x % 8 = 0 ∨ x % 8 = 1 ∨ x % 8 = 2 ∨ x % 8 = 3 ∨ x % 8 = 4 ∨ x % 8 = 5 ∨ x % 8 = 6 ∨ x % 8 = 7 := by omega
  rcases h with h | h | h | h | h | h | h | h <;> rw [h]
  · exact ⟨97, ⟨#[97]⟩, fun w => by kernel_rfl, fun w => by kernel_rfl, rfl, L _ (by decide)⟩
  · exact ⟨98, ⟨#[98]⟩, fun w => by kernel_rfl, fun w => by kernel_rfl, rfl, L _ (by decide)⟩
  · exact ⟨113, ⟨#[113]⟩, fun w => by kernel_rfl, fun w => by kernel_rfl, rfl, L _ (by decide)⟩
  · exact ⟨122, ⟨#[122]⟩, fun w => by kernel_rfl, fun w => by kernel_rfl, rfl, L _ (by decide)⟩
  · exact ⟨65, ⟨#[65]⟩, fun w => by kernel_rfl, fun w => by kernel_rfl, rfl, L _ (by decide)⟩
  · exact ⟨66, ⟨#[66]⟩, fun w => by kernel_rfl, fun w => by kernel_rfl, rfl, L _ (by decide)⟩
  · exact ⟨81, ⟨#[81]⟩, fun w => by kernel_rfl, fun w => by kernel_rfl, rfl, L _ (by decide)⟩
  · exact ⟨90, ⟨#[90]⟩, fun w => by kernel_rfl, fun w => by kernel_rfl, rfl, L _ (by decide)⟩
theorem Letters.append {s t : ByteArray} (hs : Letters s) (ht : Letters t) : Letters (s ++ t) := by
  intro j hj
  rw [ByteArray.size_append] at hj
  have e : (s ++ t).data.toList = s.data.toList ++ t.data.toList := by simp [ByteArray.data_append]
  rw [e]
  by_cases h : j < s.size
  · have h' : j < s.data.toList.length := by simpa using h
    rw [List.getD_eq_getElem?_getD, List.getElem?_append_left h', ← List.getD_eq_getElem?_getD]
    exact hs j h
  · have h' : s.data.toList.length ≤ j := by
      have : s.data.toList.length = s.size := by simp
      omega
    rw [List.getD_eq_getElem?_getD, List.getElem?_append_right h', ← List.getD_eq_getElem?_getD]
    have e2 : s.data.toList.length = s.size := by simp
    rw [e2]
    exact ht (j - s.size) (by omega)
abbrev polB : Obj := .cells #[.string ⟨#[102, 105, 102, 111]⟩, .string ⟨#[115, 116, 97, 116, 101, 45, 97, 119, 97, 114, 101]⟩, .string ⟨#[112, 114, 105, 111, 114, 105, 116, 121]⟩, .string ⟨#[102, 97, 105, 114, 115, 104, 97, 114, 101]⟩] 24
abbrev shaB : Obj := .cells #[.string ⟨#[99, 112, 117]⟩, .string ⟨#[109, 101, 109]⟩, .string ⟨#[103, 112, 117]⟩] 9
abbrev resB : Obj := .cells #[.string ⟨#[99, 112, 117]⟩, .string ⟨#[109, 101, 109]⟩, .string ⟨#[103, 112, 117]⟩, .string ⟨#[100, 105, 115, 107]⟩] 9
abbrev queB (s pol sh : ByteArray) (rc : Bool) (t : Int) (m : Option Nat) : Obj := .cells #[.string s, .string pol, .string sh, .bool rc, .int .i64 t, .map m] 30
theorem and_max_bd (x : Int) : 0 ≤ bits .and .i64 x 9223372036854775807 ∧ (Lit.int .i64 (bits .and .i64 x 9223372036854775807)).wf = true := by
  have h : ∃ n : Nat, n ≤ 9223372036854775807 ∧ bits .and .i64 x 9223372036854775807 = (n : Int) := by
    refine ⟨((BitVec.ofInt 64 x) &&& (BitVec.ofInt 64 9223372036854775807)).toNat, ?_, ?_⟩
    · rw [BitVec.toNat_and]
      exact Nat.le_trans Nat.and_le_right (by decide)
    · have hb : ((BitVec.ofInt 64 x) &&& (BitVec.ofInt 64 9223372036854775807)).toNat ≤ 9223372036854775807 := by
        rw [BitVec.toNat_and]
        exact Nat.le_trans Nat.and_le_right (by decide)
      show IntKind.i64.wrap (((BitVec.ofInt 64 x) &&& (BitVec.ofInt 64 9223372036854775807)).toNat : Int) = _
      generalize ((BitVec.ofInt 64 x) &&& (BitVec.ofInt 64 9223372036854775807)).toNat = n at hb
      rw [IntKind.wrap_i64]
      omega
  obtain ⟨n, hn, e⟩ := h
  rw [e]
  exact ⟨by omega, WalkArith.wf_i64 (by omega)⟩
theorem kind_prio {pol sh : ByteArray} {t : Int} (hsh : ((pol.toList == [102, 97, 105, 114, 115, 104, 97, 114, 101]) = false ∧ sh = ⟨#[]⟩) ∨ ((pol.toList == [102, 97, 105, 114, 115, 104, 97, 114, 101]) = true ∧ ShOk sh))
    (hp : (pol.toList == [112, 114, 105, 111, 114, 105, 116, 121]) = true) (ht : 0 ≤ t) : Kind pol sh true t := by
  rcases hsh with ⟨h, rfl⟩ | ⟨h, _⟩
  · exact Or.inr (Or.inl ⟨h, hp, rfl, rfl, ht⟩)
  · rw [beq_iff_eq] at h hp
    rw [h] at hp
    exact absurd hp (by decide)
theorem kind_else {pol sh : ByteArray} (hsh : ((pol.toList == [102, 97, 105, 114, 115, 104, 97, 114, 101]) = false ∧ sh = ⟨#[]⟩) ∨ ((pol.toList == [102, 97, 105, 114, 115, 104, 97, 114, 101]) = true ∧ ShOk sh)) : Kind pol sh false 0 := by
  rcases hsh with ⟨h, rfl⟩ | ⟨h, hs⟩
  · exact Or.inl ⟨h, rfl, rfl, rfl⟩
  · exact Or.inr (Or.inr ⟨h, hs, rfl, rfl⟩)
/-- the world behind q's making: nothing of its four first blocks has turned since -/
def Rel7 (w wx : World) (s pol sh : ByteArray) (rc : Bool) (t : Int) : Prop :=
  ∃ m, Below ((((w.alloc polB).alloc shaB).alloc resB).alloc (queB s pol sh rc t m)).heap.size ((((w.alloc polB).alloc shaB).alloc resB).alloc (queB s pol sh rc t m)) wx ∧ (m = none ∨ ∃ M n D, m = some M ∧ rc = false ∧ Owns wx M n D)
theorem idx26 {b r : Nat} {x : Int} (hx : x % 4 = r) (_hr : r < 4) (w : World) :
    (Instr.indexAt 26 (.slice (some ⟨b, 0, none⟩) 4 4) (.int .i64 (x % 4))).run Ybaf.prog w = .ok (.pointer (some ⟨b, r, none⟩)) w := by
  have hs : (sizeOf 9).run Ybaf.prog w = .ok 1 w := by kernel_rfl
  rw [hx, run_indexAt_slice _ _ _ _ _ _ _ Ybaf.underlying26]
  rw [if_pos (by omega)]
  show ((sizeOf 9).run Ybaf.prog w).andThen _ = _
  rw [hs]
  simp [Result.andThen, Addr.add]
  omega
theorem idx23 {a : Option Addr} {b off len cap k : Nat} (ha : a = some ⟨b, off, none⟩) (hk : k < len) (w : World) :
    (Instr.indexAt 23 (.slice a len cap) (.int .i64 (k : Int))).run Ybaf.prog w = .ok (.pointer (some ⟨b, off + k, none⟩)) w := by
  subst ha
  have hs : (sizeOf 2).run Ybaf.prog w = .ok 1 w := by kernel_rfl
  rw [run_indexAt_slice _ _ _ _ _ _ _ Ybaf.underlying23]
  rw [if_pos (by omega)]
  show ((sizeOf 2).run Ybaf.prog w).andThen _ = _
  rw [hs]
  simp [Result.andThen, Addr.add]
def rnames : List ByteArray := [⟨#[99, 112, 117]⟩, ⟨#[109, 101, 109]⟩, ⟨#[103, 112, 117]⟩, ⟨#[100, 105, 115, 107]⟩]
theorem rnames_size (r : Nat) : (rnames.getD r ByteArray.empty).size ≤ maxLen := by
  unfold maxLen
  match r with
  | 0 => decide
  | 1 => decide
  | 2 => decide
  | 3 => decide
  | n + 4 => simp [rnames]
/-- what stands in the first four blocks -/
theorem four_facts {w wx : World} {s pol sh : ByteArray} {rc : Bool} {t : Int} {m : Option Nat} (hb : Below ((((w.alloc polB).alloc shaB).alloc resB).alloc (queB s pol sh rc t m)).heap.size ((((w.alloc polB).alloc shaB).alloc resB).alloc (queB s pol sh rc t m)) wx) :
    wx.cell? ⟨w.heap.size + 1 + 1 + 1, 0, none⟩ = some (.string s) ∧ wx.cell? ⟨w.heap.size + 1 + 1 + 1, 1, none⟩ = some (.string pol) ∧ wx.cell? ⟨w.heap.size + 1 + 1 + 1, 2, none⟩ = some (.string sh) ∧
    wx.cell? ⟨w.heap.size + 1 + 1 + 1, 3, none⟩ = some (.bool rc) ∧ wx.cell? ⟨w.heap.size + 1 + 1 + 1, 4, none⟩ = some (.int .i64 t) ∧ wx.cell? ⟨w.heap.size + 1 + 1 + 1, 5, none⟩ = some (.map m) ∧
    (∀ r, r < 4 → wx.cell? ⟨w.heap.size + 1 + 1, r, none⟩ = some (.string (rnames.getD r ByteArray.empty))) ∧ w.heap.size + 1 + 1 + 1 + 1 ≤ wx.heap.size ∧ Below w.heap.size w wx := by
  have hs := hb.size
  simp at hs
  have c : ∀ b j v, ((((w.alloc polB).alloc shaB).alloc resB).alloc (queB s pol sh rc t m)).cell? ⟨b, j, none⟩ = some v → wx.cell? ⟨b, j, none⟩ = some v := fun b j v h => cell_later hb h
  refine ⟨c _ _ _ (by simp [go_sem]), c _ _ _ (by simp [go_sem]), c _ _ _ (by simp [go_sem]), c _ _ _ (by simp [go_sem]), c _ _ _ (by simp [go_sem]), c _ _ _ (by simp [go_sem]), ?_, by omega, ?_⟩
  · intro r hr
    refine c _ _ _ ?_
    match r, hr with
    | 0, _ => simp [go_sem, rnames]
    | 1, _ => simp [go_sem, rnames]
    | 2, _ => simp [go_sem, rnames]
    | 3, _ => simp [go_sem, rnames]
    | n + 4, h => omega
  · exact (((((Below.refl _ w).alloc (Nat.le_refl _) _).alloc (by simp) _).alloc (by simp; omega) _).alloc (by simp; omega) _).trans (hb.mono (by simp; omega))
theorem own_start (w : World) (s pol sh : ByteArray) (t : Int) :
    Owns (((((w.alloc polB).alloc shaB).alloc resB).alloc (queB s pol sh false t (some (w.heap.size + 1 + 1 + 1 + 1)))).alloc (.map #[] 0)) (w.heap.size + 1 + 1 + 1 + 1) 0 (.map []) := by
  have h := World.ownsMap_made (H := Unit) ((((w.alloc polB).alloc shaB).alloc resB).alloc (queB s pol sh false t (some (w.heap.size + 1 + 1 + 1 + 1)))) Ybaf.prog 9 nonneg
  have e : ((((w.alloc polB).alloc shaB).alloc resB).alloc (queB s pol sh false t (some (w.heap.size + 1 + 1 + 1 + 1)))).heap.size = w.heap.size + 1 + 1 + 1 + 1 := by simp
  rw [e] at h
  exact h
theorem rem4 (x : Int) : ∃ r : Nat, r < 4 ∧ x % 4 = r := ⟨(x % 4).toNat, by omega, by omega⟩
theorem LaidNames.below {w w' : World} (h : LaidNames w) (hb : Below w.heap.size w w') : LaidNames w' := by
  obtain ⟨b, off, c, h1, h2⟩ := h
  exact ⟨b, off, c, cell_later hb h1, fun j hj => cell_later hb (h2 j hj)⟩
theorem ta40 (v : Value) (w : World) : (Instr.typeAssert (.iface 40 v) 20 40 true).run Ybaf.prog w = .ok (.tuple #[v, .bool true]) w := by kernel_rfl
theorem look_any {w : World} {m : Option Nat} (h : m = none ∨ ∃ M n D, m = some M ∧ Owns w M n D) {s : ByteArray} (hs : s.size ≤ maxLen) :
    ∃ (c : Int) (b : Bool), (Instr.lookup 28 (.map m) (.string s) true).run Ybaf.prog w = .ok (.tuple #[.int .i64 c, .bool b]) w := by
  have hkey : keyOf Ybaf.prog 9 (.string s) = some (.string s.data.toList) := keyOf_string_mk Ybaf.underlying9 hs
  rcases h with rfl | ⟨M, n, D, rfl, hown⟩
  · exact ⟨0, false, Maps.look_nil true law9 Ybaf.underlying28 (zero2 _) hkey⟩
  · obtain ⟨v, ps, hrun, hv⟩ := World.ownsMap.look_ok hown law9 Ybaf.underlying28 (zero2 _) (nonneg_mk (a := 0) (by decide) (by decide)) hkey
    obtain ⟨c, rfl, _⟩ := nonneg_inv hv
    exact ⟨c, _, hrun⟩
theorem len_any {w : World} {m : Option Nat} (h : m = none ∨ ∃ M n D, m = some M ∧ Owns w M n D) : ∃ n : Nat, ∀ ty, (Builtin.len_ #[28] ty #[.map m]).run Ybaf.prog w = .ok (.int .i64 n) w := by
  rcases h with rfl | ⟨M, n, D, rfl, hown⟩
  · exact ⟨0, fun ty => Maps.len_nil Ybaf.underlying28 ty⟩
  · exact ⟨_, fun ty => World.ownsMap.len hown Ybaf.underlying28 ty⟩
theorem idx26n {b j : Nat} (hj : j < 4) (w : World) :
    (Instr.indexAt 26 (.slice (some ⟨b, 0, none⟩) 4 4) (.int .i64 (j : Int))).run Ybaf.prog w = .ok (.pointer (some ⟨b, j, none⟩)) w := by
  have hs : (sizeOf 9).run Ybaf.prog w = .ok 1 w := by kernel_rfl
  rw [run_indexAt_slice _ _ _ _ _ _ _ Ybaf.underlying26]
  rw [if_pos (by omega)]
  show ((sizeOf 9).run Ybaf.prog w).andThen _ = _
  rw [hs]
  simp [Result.andThen, Addr.add]
  omega
theorem not_empty {s : ByteArray} (h : 0 < s.size) : s.toList.isEmpty = false := by
  cases e : s.toList.isEmpty
  · rfl
  · rw [List.isEmpty_iff] at e
    rw [ByteArray.toList_eq] at e
    have h2 : s.data.toList.length = 0 := by rw [e]; rfl
    have h3 : s.data.toList.length = s.size := by simp
    omega
theorem cell_old {w wc w2 : World} {j : Nat} {v : Value} (hb : Below wc.heap.size wc w2) (_hsz : w.heap.size + 1 + 1 + 1 + 1 ≤ wc.heap.size) (h : wc.cell? ⟨w.heap.size + 1 + 1 + 1, j, none⟩ = some v) :
    w2.cell? ⟨w.heap.size + 1 + 1 + 1, j, none⟩ = some v := cell_later hb h
theorem own_alloc {w : World} {m : Option Nat} (h : m = none ∨ ∃ M n D, m = some M ∧ Owns w M n D) (o : Obj) : m = none ∨ ∃ M n D, m = some M ∧ Owns (w.alloc o) M n D := by
  rcases h with h | ⟨M, n, D, h1, h2⟩
  · exact Or.inl h
  · exact Or.inr ⟨M, n, D, h1, h2.alloc o⟩
theorem not_both {mx rc : Bool} (h : ¬ (mx = true ∧ rc = false)) : (mx && !rc) = false := by cases mx <;> cases rc <;> simp at h ⊢
theorem letters_q : Letters ⟨#[113]⟩ := by
  intro j hj
  have : j = 0 := by
    have h1 : j < 1 := hj
    omega
  subst this
  right
  decide

end Go.Proofs.YbulkbtdoFmt
