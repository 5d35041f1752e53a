/-
  queueForm, and readQueue on what queueForm gives: the queue comes back.
-/
import Derived.Test.YbulkbtdoFmtReadB
namespace Go.Proofs.YbulkbtdoFmt
open Go.RowKit Go.Maps Go.WideMaps
def ShOk (sh : ByteArray) : Prop := sh = ⟨#[99, 112, 117]⟩ ∨ sh = ⟨#[109, 101, 109]⟩ ∨ sh = ⟨#[103, 112, 117]⟩
def Kind (pol sh : ByteArray) (rc : Bool) (t : Int) : Prop :=
  ((pol.toList == [102, 97, 105, 114, 115, 104, 97, 114, 101]) = false ∧ sh = ⟨#[]⟩ ∧ rc = false ∧ t = 0) ∨
  ((pol.toList == [102, 97, 105, 114, 115, 104, 97, 114, 101]) = false ∧ (pol.toList == [112, 114, 105, 111, 114, 105, 116, 121]) = true ∧ sh = ⟨#[]⟩ ∧ rc = true ∧ 0 ≤ t) ∨
  ((pol.toList == [102, 97, 105, 114, 115, 104, 97, 114, 101]) = true ∧ ShOk sh ∧ rc = false ∧ t = 0)
def PolOk (pol : ByteArray) : Prop := pol = ⟨#[102, 105, 102, 111]⟩ ∨ pol = ⟨#[115, 116, 97, 116, 101, 45, 97, 119, 97, 114, 101]⟩ ∨ pol = ⟨#[112, 114, 105, 111, 114, 105, 116, 121]⟩ ∨ pol = ⟨#[102, 97, 105, 114, 115, 104, 97, 114, 101]⟩

/-- the three pointers that queueForm lays -/
def spOf (sh : ByteArray) (B : Nat) : Option Addr := if sh.toList = [] ∨ sh.toList = [99, 112, 117] then none else some ⟨B, 2, none⟩
def rpOf (rc : Bool) (B : Nat) : Option Addr := if rc = true then some ⟨B, 4, none⟩ else none
def mpOf (m : Option Nat) (B : Nat) : Option Addr := if m.isSome = true then some ⟨B, 5, none⟩ else none
abbrev queC (s pol sh : ByteArray) (rc : Bool) (t : Int) (m : Option Nat) : Array Value := #[.string s, .string pol, .string sh, .bool rc, .int .i64 t, .map m]

set_option maxHeartbeats 1000000 in
set_option maxRecDepth 100000 in
theorem qform_all (name pol sh : ByteArray) (rc : Bool) (t : Int) (m : Option Nat) (w : World) :
    Calls Ybaf.prog 4 #[.agg #[.string name, .string pol, .string sh, .bool rc, .int .i64 t, .map m]] w fun e w' =>
      e = .returned (.tuple #[.iface 40 (.agg #[.string name, .pointer (some ⟨w.heap.size, 1, none⟩), .pointer (spOf sh w.heap.size), .pointer (rpOf rc w.heap.size), .pointer (mpOf m w.heap.size)]), .nilIface]) ∧
      w' = (w.alloc (.cells #[.string name, .string pol, .string sh, .bool rc, .int .i64 t, .map m] 30)).alloc (.cells #[.string name, .pointer (some ⟨w.heap.size, 1, none⟩), .pointer (spOf sh w.heap.size), .pointer (rpOf rc w.heap.size), .pointer (mpOf m w.heap.size)] 40) := by
  have h1 := neqMap28
  by_cases e1 : sh.toList = []
  · have es : spOf sh w.heap.size = none := by unfold spOf; rw [if_pos (Or.inl e1)]
    rw [es]
    clear es
    cases rc <;> cases m
    all_goals
      go_enter Ybaf.func4, Ybaf.ntmps4
      go_wp2
      go_ret2
      exact ⟨rfl, rfl⟩
  · have e4 : sh.toList.isEmpty = false := by simpa using e1
    by_cases e2 : sh.toList = [99, 112, 117]
    · have e3 : (sh.toList == [99, 112, 117]) = true := by simpa using e2
      have es : spOf sh w.heap.size = none := by unfold spOf; rw [if_pos (Or.inr e2)]
      rw [es]
      clear e1 e2 es
      cases rc <;> cases m
      all_goals
        go_enter Ybaf.func4, Ybaf.ntmps4
        go_wp2
        go_ret2
        exact ⟨rfl, rfl⟩
    · have e3 : (sh.toList == [99, 112, 117]) = false := by simpa using e2
      have es : spOf sh w.heap.size = some ⟨w.heap.size, 2, none⟩ := by unfold spOf; rw [if_neg (fun h => h.elim e1 e2)]
      rw [es]
      clear e1 e2 es
      cases rc <;> cases m
      all_goals
        go_enter Ybaf.func4, Ybaf.ntmps4
        go_wp2
        go_ret2
        exact ⟨rfl, rfl⟩

theorem contains_ok {pol : ByteArray} (h : PolOk pol) : Lib.containsS (pnames.take 4) pol = true := by
  rcases h with rfl | rfl | rfl | rfl <;> decide

theorem sp_nil (B : Nat) : spOf ⟨#[]⟩ B = none := if_pos (by decide +kernel)
theorem sp_cpu (B : Nat) : spOf ⟨#[99, 112, 117]⟩ B = none := if_pos (by decide +kernel)
theorem sp_mem (B : Nat) : spOf ⟨#[109, 101, 109]⟩ B = some ⟨B, 2, none⟩ := if_neg (by decide +kernel)
theorem sp_gpu (B : Nat) : spOf ⟨#[103, 112, 117]⟩ B = some ⟨B, 2, none⟩ := if_neg (by decide +kernel)
theorem rp_false (B : Nat) : rpOf false B = none := if_neg (by decide +kernel)
theorem rp_true (B : Nat) : rpOf true B = some ⟨B, 4, none⟩ := if_pos rfl
theorem mp_none (B : Nat) : mpOf none B = none := if_neg (by decide +kernel)
theorem mp_some (M B : Nat) : mpOf (some M) B = some ⟨B, 5, none⟩ := if_pos rfl

/-- readQueue gives back the queue that queueForm was handed -/
theorem read_all (name pol sh : ByteArray) (rc : Bool) (t : Int) (m : Option Nat) (B : Nat) (w : World) (h0 : name.toList.isEmpty = false) (hp : 0 < name.size) (h1 : name.size ≤ 317) (hl : Letters name) (hN : LaidNames w)
    (hpol : PolOk pol) (hk : Kind pol sh rc t) (hm : m = none ∨ ∃ M n D, m = some M ∧ rc = false ∧ Owns w M n D)
    (c1 : w.cell? ⟨B, 1, none⟩ = some (.string pol)) (c2 : w.cell? ⟨B, 2, none⟩ = some (.string sh)) (c4 : w.cell? ⟨B, 4, none⟩ = some (.int .i64 t)) (c5 : w.cell? ⟨B, 5, none⟩ = some (.map m)) :
    Calls Ybaf.prog 5 #[.agg #[.string name, .pointer (some ⟨B, 1, none⟩), .pointer (spOf sh B), .pointer (rpOf rc B), .pointer (mpOf m B)]] w fun e w' =>
      e = .returned (.tuple #[.agg #[.string name, .string pol, .string sh, .bool rc, .int .i64 t, .map m], .nilIface]) ∧ Below w.heap.size w w' := by
  have hmem := contains_ok hpol
  rcases hk with ⟨hne, rfl, rfl, rfl⟩ | ⟨hne, hpr, rfl, rfl, ht⟩ | ⟨hne, hsh, rfl, rfl⟩
  · rcases hm with rfl | ⟨M, n, D, rfl, _, hown⟩
    · rw [sp_nil, rp_false, mp_none]; exact read1 name pol B w h0 hp h1 hl hN c1 hmem hne
    · rw [sp_nil, rp_false, mp_some]; exact read2 name pol B w h0 hp h1 hl hN c1 M n D hown c5 hmem hne
  · rcases hm with rfl | ⟨M, n, D, rfl, hr, hown⟩
    · rw [sp_nil, rp_true, mp_none]; exact read3 name pol B w h0 hp h1 hl hN c1 t ht c4 hpr hmem hne
    · cases hr
  · rcases hsh with rfl | rfl | rfl
    · rcases hm with rfl | ⟨M, n, D, rfl, _, hown⟩
      · rw [sp_cpu, rp_false, mp_none]; exact read4 name pol B w h0 hp h1 hl hN c1 hmem hne
      · rw [sp_cpu, rp_false, mp_some]; exact read5 name pol B w h0 hp h1 hl hN c1 M n D hown c5 hmem hne
    · rcases hm with rfl | ⟨M, n, D, rfl, _, hown⟩
      · rw [sp_mem, rp_false, mp_none]; exact read6 name pol B w h0 hp h1 hl hN c1 _ c2 (by decide +kernel) hmem hne
      · rw [sp_mem, rp_false, mp_some]; exact read7 name pol B w h0 hp h1 hl hN c1 M n D hown c5 _ c2 (by decide +kernel) hmem hne
    · rcases hm with rfl | ⟨M, n, D, rfl, _, hown⟩
      · rw [sp_gpu, rp_false, mp_none]; exact read6 name pol B w h0 hp h1 hl hN c1 _ c2 (by decide +kernel) hmem hne
      · rw [sp_gpu, rp_false, mp_some]; exact read7 name pol B w h0 hp h1 hl hN c1 M n D hown c5 _ c2 (by decide +kernel) hmem hne
end Go.Proofs.YbulkbtdoFmt
