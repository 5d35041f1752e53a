/-
  THE WALK OF 'workload.LawS3485BForm': it returns true and writes nothing that was there.
-/
import Derived.Test.YbulkbtdoRows
import Derived.WalkKit
import Derived.WalkSpells
import Derived.WalkLawsBesides
import Derived.Maps.Own
import Derived.Maps.OwnOps
import Derived.Maps.OwnSet
namespace Go.Proofs.Ybulkbtdo
open Go.RowKit Go.Maps Go.WideMaps
theorem neqMap25 (m : Option Nat) (w : World) : (binOp .neq 25 (.map m) (.map none)).run Yba.prog w = .ok (.bool (!m.isNone)) w := Go.run_neq_map_nil w 25 9 2 m Yba.underlying25
theorem eqlMap25 (m : Option Nat) (w : World) : (binOp .eql 25 (.map m) (.map none)).run Yba.prog w = .ok (.bool (m.isNone)) w := Go.run_eql_map_nil w 25 9 2 m Yba.underlying25
theorem ta38 (v : Value) (w : World) : (Instr.typeAssert (.iface 38 v) 20 38 true).run Yba.prog w = .ok (.tuple #[v, .bool true]) w := by kernel_rfl
theorem law9 : Keyed Yba.prog 9 := string_keyed Yba.underlying9
theorem zero2 (w : World) : (zeroValue 2).run Yba.prog w = .ok (.int .i64 0) w := by kernel_rfl
/-- block 'B' is a map string → int64 that reads as D -/
def Owns (w : World) (B n : Nat) (D : DataW Unit) : Prop := w.ownsMap Yba.prog 9 (plainElem Yba.prog 2) B n D

theorem Owns.look {w : World} {B n : Nat} {D : DataW Unit} (h : Owns w B n D) {key : Value} {kl : Lit} (hkey : keyOf Yba.prog 9 key = some kl) :
    ∃ c : Int, D.atKey kl (.lit (.int .i64 0)) = .lit (.int .i64 c) := by
  obtain ⟨c, _, hat, _⟩ := World.ownsMap.lookup_int h law9 Yba.underlying25 Yba.underlying2 (zero2 _) hkey
  exact ⟨c, hat⟩
theorem Owns.run_look {w : World} {B n : Nat} {D : DataW Unit} (h : Owns w B n D) {key : Value} {kl : Lit} (hkey : keyOf Yba.prog 9 key = some kl) {c : Int} (hc : D.atKey kl (.lit (.int .i64 0)) = .lit (.int .i64 c)) :
    (Instr.lookup 25 (.map (some B)) key false).run Yba.prog w = .ok (.int .i64 c) w := by
  obtain ⟨c', hrun, hat, _⟩ := World.ownsMap.lookup_int h law9 Yba.underlying25 Yba.underlying2 (zero2 _) hkey
  rw [hc] at hat
  injection hat with hat; injection hat with _ hat
  rw [hat]; exact hrun
theorem Owns.run_look_ok {w : World} {B n : Nat} {D : DataW Unit} (h : Owns w B n D) {key : Value} {kl : Lit} (hkey : keyOf Yba.prog 9 key = some kl) {c : Int} (hc : D.atKey kl (.lit (.int .i64 0)) = .lit (.int .i64 c))
    (hh : Maps.has D kl = true) :
    (Instr.lookup 25 (.map (some B)) key true).run Yba.prog w = .ok (.tuple #[.int .i64 c, .bool true]) w := by
  obtain ⟨v, ps, hrun, hv⟩ := World.ownsMap.look_ok h law9 Yba.underlying25 (zero2 _) (plainElem_int Yba.underlying2 (by decide)) hkey
  obtain ⟨c', rfl, hz, _⟩ := plainElem_int_inv Yba.underlying2 hv
  have hat := congrArg Prod.fst hz
  simp only at hat
  rw [hc] at hat
  injection hat with hat; injection hat with _ hat
  rw [hh] at hrun
  rw [hat]; exact hrun
theorem Owns.alloc {w : World} {B n : Nat} {D : DataW Unit} (h : Owns w B n D) (o : Obj) : Owns (w.alloc o) B n D := World.ownsMap.alloc h o
theorem Owns.run_len {w : World} {B n : Nat} {D : DataW Unit} (h : Owns w B n D) (ty : TypeId) : (Builtin.len_ #[25] ty #[.map (some B)]).run Yba.prog w = .ok (.int .i64 (Maps.size D)) w := World.ownsMap.len h Yba.underlying25 ty

theorem ba_ext {a b : ByteArray} (h : a.data.toList = b.data.toList) : a = b := by
  cases a; cases b; congr 1; exact Array.toList_inj.1 h

/-- 'xs[k]' of a slice whose address is told by an equation -/
theorem idx22 {a : Option Addr} {b off len cap k : Nat} (ha : a = some ⟨b, off, none⟩) (hk : k < len) (w : World) :
    (Instr.indexAt 22 (.slice a len cap) (.int .i64 (k : Int))).run Yba.prog w = .ok (.pointer (some ⟨b, off + k, none⟩)) w := by
  subst ha
  have hc : Yba.prog.cellsOf 9 = 1 := by kernel_rfl
  have hs : (sizeOf 9).run Yba.prog w = .ok 1 w := by kernel_rfl
  rw [run_indexAt_slice _ _ _ _ _ _ _ Yba.underlying22]
  rw [if_pos (by omega)]
  show ((sizeOf 9).run Yba.prog w).andThen _ = _
  rw [hs]
  simp [Result.andThen, Addr.add]
theorem idx23 {a : Option Addr} {b off len cap k : Nat} (ha : a = some ⟨b, off, none⟩) (hk : k < len) (w : World) :
    (Instr.indexAt 23 (.slice a len cap) (.int .i64 (k : Int))).run Yba.prog w = .ok (.pointer (some ⟨b, off + k, none⟩)) w := by
  subst ha
  have hs : (sizeOf 2).run Yba.prog w = .ok 1 w := by kernel_rfl
  rw [run_indexAt_slice _ _ _ _ _ _ _ Yba.underlying23]
  rw [if_pos (by omega)]
  show ((sizeOf 2).run Yba.prog w).andThen _ = _
  rw [hs]
  simp [Result.andThen, Addr.add]

/-- what is told of 'keys': a string at each place below the length -/
def KeysAt (w : World) (a : Option Addr) (len : Nat) (ss : List ByteArray) : Prop :=
  ∀ k, k < len → ∃ b off, a = some ⟨b, off, none⟩ ∧ w.cell? ⟨b, off + k, none⟩ = some (.string (ss.getD k ByteArray.empty)) ∧ (ss.getD k ByteArray.empty).size ≤ maxLen
/-- what is told of 'vals' -/
def ValsAt (w : World) (a : Option Addr) (len : Nat) (zs : List Int) : Prop :=
  ∀ k, k < len → ∃ b off, a = some ⟨b, off, none⟩ ∧ w.cell? ⟨b, off + k, none⟩ = some (.int .i64 (zs.getD k 0)) ∧ (Lit.int .i64 (zs.getD k 0)).wf = true

set_option maxHeartbeats 1000000 in
set_option maxRecDepth 100000 in
theorem form_nomax0 (name pol share : ByteArray) (rc : Bool) (to : Int) (a6 : Option Addr) (l6 c6 : Nat) (a7 : Option Addr) (l7 c7 : Nat) (w : World) (hl : l6 ≤ 1024) (e1 : share.toList = []) :
    Calls Yba.prog 3 #[.string name, .string pol, .string share, .bool rc, .int .i64 to, .bool false, .slice a6 l6 c6, .slice a7 l7 c7] w fun e w' => e = .returned (.bool true) ∧ Below w.heap.size w w' := by
  have h1 := neqMap25
  have h2 := ta38
  have fin : ∀ (o1 o2 o3 o4 : Obj), Below w.heap.size w ((((w.alloc o1).alloc o2).alloc o3).alloc o4) := fun o1 o2 o3 o4 =>
    ((((Below.refl _ _).alloc (Nat.le_refl _) _).alloc (by simp) _).alloc (by simp; omega) _).alloc (by simp; omega) _
  cases rc
  all_goals
    go_enter Yba.func3, Yba.ntmps3
    go_wp2
    go_ret
    exact ⟨rfl, fin _ _ _ _⟩

set_option maxHeartbeats 1000000 in
set_option maxRecDepth 100000 in
theorem form_nomax1 (name pol share : ByteArray) (rc : Bool) (to : Int) (a6 : Option Addr) (l6 c6 : Nat) (a7 : Option Addr) (l7 c7 : Nat) (w : World) (hl : l6 ≤ 1024) (e3 : (share.toList == [99, 112, 117]) = true) (e4 : share.toList.isEmpty = false) :
    Calls Yba.prog 3 #[.string name, .string pol, .string share, .bool rc, .int .i64 to, .bool false, .slice a6 l6 c6, .slice a7 l7 c7] w fun e w' => e = .returned (.bool true) ∧ Below w.heap.size w w' := by
  have h1 := neqMap25
  have h2 := ta38
  have fin : ∀ (o1 o2 o3 o4 : Obj), Below w.heap.size w ((((w.alloc o1).alloc o2).alloc o3).alloc o4) := fun o1 o2 o3 o4 =>
    ((((Below.refl _ _).alloc (Nat.le_refl _) _).alloc (by simp) _).alloc (by simp; omega) _).alloc (by simp; omega) _
  cases rc
  all_goals
    go_enter Yba.func3, Yba.ntmps3
    go_wp2
    go_ret
    exact ⟨rfl, fin _ _ _ _⟩

set_option maxHeartbeats 1000000 in
set_option maxRecDepth 100000 in
theorem form_nomax2 (name pol share : ByteArray) (rc : Bool) (to : Int) (a6 : Option Addr) (l6 c6 : Nat) (a7 : Option Addr) (l7 c7 : Nat) (w : World) (hl : l6 ≤ 1024) (e3 : (share.toList == [99, 112, 117]) = false) (e4 : share.toList.isEmpty = false) :
    Calls Yba.prog 3 #[.string name, .string pol, .string share, .bool rc, .int .i64 to, .bool false, .slice a6 l6 c6, .slice a7 l7 c7] w fun e w' => e = .returned (.bool true) ∧ Below w.heap.size w w' := by
  have h1 := neqMap25
  have h2 := ta38
  have fin : ∀ (o1 o2 o3 o4 : Obj), Below w.heap.size w ((((w.alloc o1).alloc o2).alloc o3).alloc o4) := fun o1 o2 o3 o4 =>
    ((((Below.refl _ _).alloc (Nat.le_refl _) _).alloc (by simp) _).alloc (by simp; omega) _).alloc (by simp; omega) _
  cases rc
  all_goals
    go_enter Yba.func3, Yba.ntmps3
    go_wp2
    go_ret
    exact ⟨rfl, fin _ _ _ _⟩
end Go.Proofs.Ybulkbtdo
