/-
  COUNTED AND UPDATE.
-/
import Derived.Test.YbulkbthwFmtCells
namespace Go.Proofs.YbulkbthwFmt
open Go.RowKit

def sumZ (cnt : Nat → Int) : Nat → Int
  | 0 => 0
  | k + 1 => sumZ cnt k + cnt k
theorem sumZ_bound (cnt : Nat → Int) (M : Nat) : ∀ k : Nat, (∀ j, j < k → -(M : Int) ≤ cnt j ∧ cnt j ≤ M) → -(M * k : Int) ≤ sumZ cnt k ∧ sumZ cnt k ≤ M * k
  | 0, _ => by simp [sumZ]
  | k + 1, h => by
    obtain ⟨a, b⟩ := sumZ_bound cnt M k (fun j hj => h j (by omega))
    obtain ⟨c, d⟩ := h k (by omega)
    have e : (M : Int) * ((k + 1 : Nat) : Int) = M * k + M := by rw [Int.natCast_add, Int.mul_add]; simp
    show -(M * ((k + 1 : Nat) : Int)) ≤ sumZ cnt k + cnt k ∧ sumZ cnt k + cnt k ≤ _
    rw [e]
    omega
theorem sumZ_same (cnt cnt' : Nat → Int) : ∀ k : Nat, (∀ j, j < k → cnt' j = cnt j) → sumZ cnt' k = sumZ cnt k
  | 0, _ => rfl
  | k + 1, h => by
    show sumZ cnt' k + cnt' k = sumZ cnt k + cnt k
    rw [sumZ_same cnt cnt' k (fun j hj => h j (by omega)), h k (by omega)]
theorem sumZ_upd (cnt : Nat → Int) (c : Nat) (v : Int) : ∀ k : Nat, c < k → sumZ (fun j => if j = c then v else cnt j) k = sumZ cnt k + (v - cnt c)
  | 0, h => absurd h (Nat.not_lt_zero _)
  | k + 1, h => by
    show sumZ (fun j => if j = c then v else cnt j) k + (if k = c then v else cnt k) = sumZ cnt k + cnt k + (v - cnt c)
    by_cases e : k = c
    · subst e
      rw [if_pos rfl, sumZ_same cnt _ k (fun j hj => by show (if j = k then v else cnt j) = _; rw [if_neg (by omega)])]
      omega
    · rw [if_neg e, sumZ_upd cnt c v k (by omega)]
      omega
theorem sumZ_small {cnt : Nat → Int} {M n k : Nat} (hM : M ≤ 20000) (hn : n ≤ 207) (hk : k ≤ n) (hb : ∀ j, j < n → -(M : Int) ≤ cnt j ∧ cnt j ≤ M) : -5000000 ≤ sumZ cnt k ∧ sumZ cnt k ≤ 5000000 := by
  obtain ⟨a, b⟩ := sumZ_bound cnt M k (fun j hj => hb j (by omega))
  have e : M * k ≤ 20000 * 207 := Nat.mul_le_mul hM (by omega)
  have e2 : (M : Int) * (k : Int) = ((M * k : Nat) : Int) := by rw [Int.natCast_mul]
  rw [e2] at a b
  omega

theorem idx39 {B len cap k : Nat} (hk : k < len) (w : World) :
    (Instr.indexAt 39 (.slice (some ⟨B, 0, none⟩) len cap) (.int .i64 (k : Int))).run Ybaf.prog w = .ok (.pointer (some ⟨B, k * 3, none⟩)) w := by
  have hs : (sizeOf 44).run Ybaf.prog w = .ok 3 w := by kernel_rfl
  rw [run_indexAt_slice _ _ _ _ _ _ _ Ybaf.underlying39]
  rw [if_pos (by omega)]
  show ((sizeOf 44).run Ybaf.prog w).andThen _ = _
  rw [hs]
  simp [Result.andThen, Addr.add]
  omega
theorem idx32 {B len cap k : Nat} (hk : k < len) (w : World) :
    (Instr.indexAt 32 (.slice (some ⟨B, 0, none⟩) len cap) (.int .i64 (k : Int))).run Ybaf.prog w = .ok (.pointer (some ⟨B, k, none⟩)) w := by
  have hs : (sizeOf 3).run Ybaf.prog w = .ok 1 w := by kernel_rfl
  rw [run_indexAt_slice _ _ _ _ _ _ _ Ybaf.underlying32]
  rw [if_pos (by omega)]
  show ((sizeOf 3).run Ybaf.prog w).andThen _ = _
  rw [hs]
  simp [Result.andThen, Addr.add]
  omega

/-- cell number j of the sketch holds the j-th count -/
def Laid (f : Nat → Value) (cnt : Nat → Int) (j : Nat) : Prop := ∃ key chk, f (j * 3) = .int .u64 key ∧ f (j * 3 + 1) = .int .u32 chk ∧ f (j * 3 + 2) = .int .i32 (cnt j)
/-- the sketch's table -/
def Tab (w : World) (B n : Nat) (cnt : Nat → Int) (M : Nat) : Prop := (∃ f, RowIs w B 44 (n * 3) f ∧ ∀ j, j < n → Laid f cnt j) ∧ ∀ j, j < n → -(M : Int) ≤ cnt j ∧ cnt j ≤ M

theorem Laid.upd {f : Nat → Value} {cnt : Nat → Int} {c : Nat} {a b v : Int} {j : Nat} (h : Laid f cnt j) :
    Laid (fun i => if i = c * 3 + 2 then .int .i32 v else if i = c * 3 + 1 then .int .u32 b else if i = c * 3 then .int .u64 a else f i) (fun i => if i = c then v else cnt i) j := by
  by_cases e1 : j = c
  · subst e1
    refine ⟨a, b, ?_, ?_, ?_⟩
    · show (if _ then _ else if _ then _ else if _ then _ else _) = _
      rw [if_neg (by omega), if_neg (by omega), if_pos rfl]
    · show (if _ then _ else if _ then _ else if _ then _ else _) = _
      rw [if_neg (by omega), if_pos rfl]
    · show (if _ then _ else if _ then _ else if _ then _ else _) = _
      rw [if_pos rfl]
      show _ = Value.int .i32 (if j = j then v else _)
      rw [if_pos rfl]
  · obtain ⟨key, chk, h1, h2, h3⟩ := h
    refine ⟨key, chk, ?_, ?_, ?_⟩
    · show (if _ then _ else if _ then _ else if _ then _ else _) = _
      rw [if_neg (by omega), if_neg (by omega), if_neg (by omega)]; exact h1
    · show (if _ then _ else if _ then _ else if _ then _ else _) = _
      rw [if_neg (by omega), if_neg (by omega), if_neg (by omega)]; exact h2
    · show (if _ then _ else if _ then _ else if _ then _ else _) = _
      rw [if_neg (by omega), if_neg (by omega), if_neg (by omega), h3]
      show _ = Value.int .i32 (if j = c then v else _)
      rw [if_neg e1]
/-- one cell's update -/
theorem Tab.upd {w : World} {B n M c : Nat} {cnt : Nat → Int} (h : Tab w B n cnt M) (hc : c < n) {d : Int} (hd : -1 ≤ d ∧ d ≤ 1) (a b : Int) :
    ∃ cnt', Tab (((w.setCell ⟨B, c * 3, none⟩ (.int .u64 a)).setCell ⟨B, c * 3 + 1, none⟩ (.int .u32 b)).setCell ⟨B, c * 3 + 2, none⟩ (.int .i32 (cnt c + d))) B n cnt' (M + 1) ∧ sumZ cnt' n = sumZ cnt n + d := by
  obtain ⟨⟨f, hr, hl⟩, hb⟩ := h
  refine ⟨fun i => if i = c then cnt c + d else cnt i, ⟨⟨_, ((hr.set (by omega) _).set (by omega) _).set (by omega) _, fun j hj => (hl j hj).upd⟩, fun j hj => ?_⟩, ?_⟩
  · obtain ⟨x, y⟩ := hb j hj
    show -((M + 1 : Nat) : Int) ≤ (if j = c then cnt c + d else cnt j) ∧ (if j = c then cnt c + d else cnt j) ≤ ((M + 1 : Nat) : Int)
    split
    · rename_i e; subst e; omega
    · omega
  · rw [sumZ_upd cnt c _ n hc]
    omega
theorem Tab.mono {w : World} {B n M M' : Nat} {cnt : Nat → Int} (h : Tab w B n cnt M) (hM : M ≤ M') : Tab w B n cnt M' :=
  ⟨h.1, fun j hj => by obtain ⟨a, b⟩ := h.2 j hj; omega⟩
theorem Tab.kept {w w' : World} {B n M b : Nat} {cnt : Nat → Int} (h : Tab w B n cnt M) (hg : w.grownBy w' (some b)) (hne : B ≠ b) : Tab w' B n cnt M := by
  obtain ⟨⟨f, hr, hl⟩, hb⟩ := h
  exact ⟨⟨f, hr.kept hg hne, hl⟩, hb⟩
theorem Tab.later {w w' : World} {B n M : Nat} {cnt : Nat → Int} (h : Tab w B n cnt M) (hg : Below w.heap.size w w') : Tab w' B n cnt M := by
  obtain ⟨⟨f, hr, hl⟩, hb⟩ := h
  exact ⟨⟨f, hr.below hg hr.lt, hl⟩, hb⟩

set_option maxHeartbeats 400000 in
set_option maxRecDepth 100000 in
theorem counted_any (sb B n cap M : Nat) (cnt : Nat → Int) (w : World) (hn : n ≤ 207) (hM : M ≤ 20000) (hs : w.cell? ⟨sb, 2, none⟩ = some (.slice (some ⟨B, 0, none⟩) n cap)) (ht : Tab w B n cnt M) :
    Calls Ybaf.prog 5 #[.pointer (some ⟨sb, 0, none⟩)] w fun e w' => e = .returned (.int .i64 (sumZ cnt n)) ∧ Below w.heap.size w w' := by
  go_enter Ybaf.func5, Ybaf.ntmps5
  go_wp2
  go_loopw [3, 11] (fun s i wr => ∃ k : Nat, k ≤ n ∧ i = .int .i64 k ∧ s = .int .i64 (sumZ cnt k) ∧ Below w.heap.size w wr) (fun _ i _ => n - (intOf i).toNat)
  case atStart => exact ⟨0, Nat.zero_le _, rfl, rfl, Below.refl _ _⟩
  case round =>
    obtain ⟨k, hk, rfl, rfl, hbel⟩ := hrel
    by_cases hlt : k < n
    · obtain ⟨⟨f, hr, hl⟩, hb⟩ := ht.later hbel
      obtain ⟨key, chk, h1, h2, h3⟩ := hl k hlt
      have hi := fun wz => idx39 (B := B) (cap := cap) hlt wz
      have c1 := hr.cell (i := k * 3) (by omega)
      have c2 := hr.cell (i := k * 3 + 1) (by omega)
      have c3 := hr.cell (i := k * 3 + 2) (by omega)
      rw [h1] at c1
      rw [h2] at c2
      rw [h3] at c3
      obtain ⟨b1, b2⟩ := hb k hlt
      have s1 := sumZ_small hM hn hk hb
      have HS : Hid (sumZ cnt (k + 1) = sumZ cnt k + cnt k) := rfl
      clear h1 h2 h3 hl hb hr ht
      generalize sumZ cnt k = s at *
      generalize cnt k = c at *
      have e1 : -20000 ≤ c := by omega
      have e2 : c ≤ 20000 := by omega
      clear b1 b2
      go_wp2
      go_roundw
      case rel => exact ⟨k + 1, by omega, by go_num, by rw [HS.out], hbel.alloc hbel.size _⟩
      case measure => simp [intOf]; omega
    · have hk : k = n := by omega
      subst hk
      go_wp2
      go_ret
      exact ⟨rfl, hbel⟩

set_option maxHeartbeats 1000000 in
set_option maxRecDepth 100000 in
theorem update_any (sb b n hsh B M : Nat) (X : Nat) (d : Int) (cnt f : Nat → _) (w : World) (hX : X < 18446744073709551616) (hn0 : 8 ≤ n) (hn : n ≤ 207) (hh3 : 3 ≤ hsh) (hh : hsh ≤ 8) (hM : M ≤ 19000) (hd : -1 ≤ d ∧ d ≤ 1)
    (c1 : w.cell? ⟨sb, 1, none⟩ = some (.int .i64 (hsh : Int))) (c2 : w.cell? ⟨sb, 2, none⟩ = some (.slice (some ⟨B, 0, none⟩) n n)) (hb : RowIs w b 31 8 f) (hne : sb ≠ b) (hne2 : sb ≠ B) (hne3 : B ≠ b) (ht : Tab w B n cnt M) :
    Calls Ybaf.prog 6 #[.pointer (some ⟨sb, 0, none⟩), .int .u64 (X : Int), .int .i32 d, .pointer (some ⟨b, 0, none⟩)] w fun e w' => e = .returned (.slice (some ⟨b, 0, none⟩) hsh 8) ∧ ∃ w1, w.grownBy w1 (some b) ∧ w1.grownBy w' (some B) ∧
      ∃ cnt', Tab w' B n cnt' (M + hsh) ∧ sumZ cnt' n = sumZ cnt n + d * hsh := by
  go_enter Ybaf.func6, Ybaf.ntmps6
  go_wp2_with fail
  refine (checkHash_any X _ hX).mono ?_
  rintro e w' ⟨⟨ck, rfl⟩, rfl⟩
  go_wp2_with fail
  refine (cellsOf_any sb b n hsh B X f _ hX hn0 hn hh3 hh c1 c2 hb hne).mono ?_
  rintro e w1 ⟨rfl, hg1, g, hgr, hgc⟩
  have c2' := cell_kept hg1 hne c2
  have ht1 := ht.kept hg1 hne3
  clear c1 c2 hb ht
  go_wp2
  go_loopw [22] (fun i wr => ∃ k : Nat, k ≤ hsh ∧ i = .int .i64 k ∧ w1.grownBy wr (some B) ∧ ∃ cnt', Tab wr B n cnt' (M + k) ∧ sumZ cnt' n = sumZ cnt n + d * k) (fun i _ => hsh - (intOf i).toNat)
  case atStart => exact ⟨0, Nat.zero_le _, rfl, grown_refl _ _, cnt, ht1, by simp⟩
  case round =>
    obtain ⟨k, hk, rfl, hg2, cnt', htab, hsum⟩ := hrel
    by_cases hlt : k < hsh
    · obtain ⟨c, hc, hgk⟩ := hgc k hlt
      have r1 := (hgr.kept hg2 (fun e => hne3 e.symm)).cell (i := k) (by omega)
      rw [hgk] at r1
      have r2 := cell_kept hg2 hne2 c2'
      have hi := fun wz => idx32 (B := b) (cap := 8) hlt wz
      have hi2 := fun wz => idx39 (B := B) (cap := n) hc wz
      have U := fun a b => htab.upd hc hd a b
      have HU : Hid (∀ a b : Int, ∃ cnt'', Tab (((wr.setCell ⟨B, c * 3, none⟩ (.int .u64 a)).setCell ⟨B, c * 3 + 1, none⟩ (.int .u32 b)).setCell ⟨B, c * 3 + 2, none⟩ (.int .i32 (cnt' c + d))) B n cnt'' (M + k + 1) ∧ sumZ cnt'' n = sumZ cnt' n + d) := U
      have HS : Hid (sumZ cnt' n = sumZ cnt n + d * k) := hsum
      obtain ⟨⟨f', hr, hl⟩, hbd⟩ := htab
      obtain ⟨key, chk, h1, h2, h3⟩ := hl c hc
      have k1 := hr.cell (i := c * 3) (by omega)
      have k2 := hr.cell (i := c * 3 + 1) (by omega)
      have k3 := hr.cell (i := c * 3 + 2) (by omega)
      rw [h1] at k1
      rw [h2] at k2
      rw [h3] at k3
      have z1 := hr.frozen (c * 3)
      have z2 := hr.frozen (c * 3 + 1)
      have z3 := hr.frozen (c * 3 + 2)
      obtain ⟨b1, b2⟩ := hbd c hc
      clear U hsum h1 h2 h3 hr hl hbd ht1 hgr hgc hgk hg1 c2'
      generalize cnt' c = x at *
      have e1 : -20000 ≤ x := by omega
      have e2 : x ≤ 20000 := by omega
      clear b1 b2
      go_wp2
      go_roundw
      case rel =>
        obtain ⟨cnt'', hT, hs''⟩ := HU.out _ _
        refine ⟨k + 1, by omega, by go_num, grown_trans hg2 (grown_trans (grown_trans (grown_set _ B _ _) (grown_set _ B _ _)) (grown_set _ B _ _)), cnt'', hT, ?_⟩
        rw [hs'', HS.out, Int.natCast_add, Int.mul_add]
        simp
        omega
      case measure => simp [intOf]; omega
    · have hk : k = hsh := by omega
      subst hk
      go_wp2
      go_ret
      exact ⟨rfl, w1, hg1, hg2, cnt', htab, hsum⟩
end Go.Proofs.YbulkbthwFmt
