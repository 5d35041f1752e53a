/-
  WHAT A RANGE SHOULD HOLD, plain.
-/
import Derived.Test.YbulkbtdoUJ
namespace Go.Proofs.Ybulkbtdo.U
open Go.RowKit
def cmb : Option Am → Option Am → Option Am
  | some a, some b => some (meetP a b)
  | some a, none => some a
  | none, b => b
theorem cmb_assoc (a b c : Option Am) : cmb (cmb a b) c = cmb a (cmb b c) := by
  cases a <;> cases b <;> cases c <;> simp [cmb, meetP_assoc]
theorem cmb_none (a : Option Am) : cmb a none = a := by cases a <;> rfl
theorem cmb_some (a b : Option Am) : (cmb a b).isSome = (a.isSome || b.isSome) := by cases a <;> cases b <;> rfl
theorem cmb_comb (a b : Option Am) : comb a.isSome b.isSome (a.getD []) (b.getD []) = (cmb a b).getD [] := by cases a <;> cases b <;> rfl
/-- a place's own need, where the set holds it -/
def lf (G : Geo) (N : Nat → Am) (mem : Nat → Bool) (l : Nat) : Option Am := if held G mem (l - G.size) then some (N (l - G.size)) else none
def nd (G : Geo) (N : Nat → Am) (mem : Nat → Bool) : Nat → Nat → Option Am
  | 0, r => lf G N mem r
  | f + 1, r => if G.size ≤ r then lf G N mem r else cmb (nd G N mem f (2 * r)) (nd G N mem f (2 * r + 1))
theorem nd_stable (G : Geo) (N : Nat → Am) (mem : Nat → Bool) : ∀ (f r : Nat), G.size ≤ r * 2 ^ f → nd G N mem (f + 1) r = nd G N mem f r
  | 0, r, h => by
    have : G.size ≤ r := by simpa using h
    simp [nd, this]
  | f + 1, r, h => by
    by_cases hr : G.size ≤ r
    · simp [nd, hr]
    · have e : r * 2 ^ (f + 1) = 2 * r * 2 ^ f := by rw [Nat.pow_succ, Nat.mul_comm (2 ^ f) 2, ← Nat.mul_assoc, Nat.mul_comm r 2]
      have h1 := nd_stable G N mem f (2 * r) (by rw [← e]; exact h)
      have h2 := nd_stable G N mem f (2 * r + 1) (Nat.le_trans (by rw [← e]; exact h) (Nat.mul_le_mul_right _ (by omega)))
      show (if G.size ≤ r then _ else cmb (nd G N mem (f + 1) (2 * r)) (nd G N mem (f + 1) (2 * r + 1))) = (if G.size ≤ r then _ else cmb (nd G N mem f (2 * r)) (nd G N mem f (2 * r + 1)))
      rw [h1, h2]
def ND (G : Geo) (N : Nat → Am) (mem : Nat → Bool) (r : Nat) : Option Am := nd G N mem 9 r
theorem ND_leaf {G : Geo} {N : Nat → Am} {mem : Nat → Bool} {r : Nat} (h : G.size ≤ r) : ND G N mem r = lf G N mem r := by
  show (if G.size ≤ r then _ else _) = _
  rw [if_pos h]
theorem ND_inner {G : Geo} {N : Nat → Am} {mem : Nat → Bool} {r : Nat} (h : r < G.size) (h1 : 1 ≤ r) (h256 : G.size ≤ 256) : ND G N mem r = cmb (ND G N mem (2 * r)) (ND G N mem (2 * r + 1)) := by
  show (if G.size ≤ r then _ else cmb (nd G N mem 8 (2 * r)) (nd G N mem 8 (2 * r + 1))) = _
  rw [if_neg (by omega), ← nd_stable G N mem 8 (2 * r) (by omega), ← nd_stable G N mem 8 (2 * r + 1) (by omega)]
  rfl
/-- a range is as it should be -/
def Good (G : Geo) (N : Nat → Am) (mem : Nat → Bool) (al : Bool) (X : Cur) (r : Nat) : Prop :=
  X.Le (r - 1) = (ND G N mem r).getD [] ∧ decide (X.lo (r - 1) ≠ 0) = (ND G N mem r).isSome ∧ (al = true → X.lo (r - 1) = if (ND G N mem r).isSome then 9 else 0)
theorem range_good {G : Geo} {N : Nat → Am} {mem : Nat → Bool} {al : Bool} {X : Cur} {q : Nat} (h : q < G.size → Good G N mem al X q) : rangeIn G mem X q = (ND G N mem q).isSome ∧ rangeLe G N mem X q = (ND G N mem q).getD [] := by
  unfold rangeIn rangeLe
  by_cases hq : q < G.size
  · rw [if_pos hq, if_pos hq]
    obtain ⟨h1, h2, _⟩ := h hq
    refine ⟨?_, h1⟩
    rw [← h2]
    by_cases e : X.lo (q - 1) = 0
    · rw [e]; rfl
    · rw [decide_eq_true e]
      have : ((X.lo (q - 1) : Int) != 0) = true := by simp; omega
      exact this
  · rw [if_neg hq, if_neg hq, ND_leaf (by omega)]
    unfold lf
    cases held G mem (q - G.size) <;> simp
/-- sumNeeds makes a range good whose halves are good -/
theorem summed_good {w w' : World} {G : Geo} {N : Nat → Am} {nv : Nat → Value} {al : Bool} {X : Cur} {mem : Nat → Bool} {r : Nat} {e : Ending} (h256 : G.size ≤ 256) (hr1 : 1 ≤ r) (hr2 : r < G.size)
    (g1 : 2 * r < G.size → Good G N mem al X (2 * r)) (g2 : 2 * r + 1 < G.size → Good G N mem al X (2 * r + 1))
    (h : Summed w G N nv al X (r - 1) (rangeIn G mem X (2 * r) || rangeIn G mem X (2 * r + 1)) (comb (rangeIn G mem X (2 * r)) (rangeIn G mem X (2 * r + 1)) (rangeLe G N mem X (2 * r)) (rangeLe G N mem X (2 * r + 1))) e w') :
    ∃ X', RetB e (fun ch => ch = false → X'.lo (r - 1) = X.lo (r - 1) ∧ X'.Le (r - 1) = X.Le (r - 1)) ∧ Tree w' G N nv al X' ∧ Chg (Dt G) w w' ∧ (∀ j, j ≠ r - 1 → X'.lo j = X.lo j ∧ X'.Le j = X.Le j) ∧ Good G N mem al X' r := by
  obtain ⟨a1, b1⟩ := range_good g1
  obtain ⟨a2, b2⟩ := range_good g2
  rw [a1, a2, b1, b2, cmb_comb, ← cmb_some, ← ND_inner hr2 hr1 h256] at h
  obtain ⟨X', hr, ht, hc, hj, hL, hd, ha⟩ := h
  exact ⟨X', hr, ht, hc, hj, hL, hd, ha⟩
theorem Good.kept {G : Geo} {N : Nat → Am} {mem : Nat → Bool} {al : Bool} {X X' : Cur} {q : Nat} (h : Good G N mem al X q) (h1 : X'.lo (q - 1) = X.lo (q - 1)) (h2 : X'.Le (q - 1) = X.Le (q - 1)) : Good G N mem al X' q := by
  unfold Good at h ⊢
  rw [h1, h2]
  exact h
/-- the same need, the same word: from one set to another -/
theorem Good.to {G : Geo} {N : Nat → Am} {mem mem' : Nat → Bool} {al : Bool} {X : Cur} {q : Nat} (h : Good G N mem al X q) (e : ND G N mem' q = ND G N mem q) : Good G N mem' al X q := by
  unfold Good at h ⊢
  rw [e]
  exact h
/-- two words on one range: the needs agree -/
theorem Good.same {G : Geo} {N : Nat → Am} {mem mem' : Nat → Bool} {al : Bool} {X X' : Cur} {q : Nat} (h : Good G N mem al X q) (h' : Good G N mem' al X' q) (h1 : X'.lo (q - 1) = X.lo (q - 1)) (h2 : X'.Le (q - 1) = X.Le (q - 1)) : ND G N mem' q = ND G N mem q := by
  obtain ⟨a1, b1, _⟩ := h
  obtain ⟨a2, b2, _⟩ := h'
  rw [h2, a1] at a2
  rw [h1, b1] at b2
  cases e1 : ND G N mem q with
  | none =>
    cases e2 : ND G N mem' q with
    | none => rfl
    | some b => rw [e1, e2] at b2; cases b2
  | some a =>
    cases e2 : ND G N mem' q with
    | none => rw [e1, e2] at b2; cases b2
    | some b =>
      rw [e1, e2] at a2
      have : a = b := a2
      rw [this]
/-- the need of a range above no changed place -/
theorem nd_far (G : Geo) (N : Nat → Am) (mem mem' : Nat → Bool) (g : Nat) (hm : ∀ p, p ≠ g → mem' p = mem p) : ∀ (f r : Nat), 1 ≤ r → G.size ≤ r * 2 ^ f → (∀ i, (G.size + g) / 2 ^ i ≠ r) → nd G N mem' f r = nd G N mem f r
  | 0, r, _, hs, hr => by
    have hs' : G.size ≤ r := by simpa using hs
    have : r - G.size ≠ g := fun e => hr 0 (by simp; omega)
    show lf G N mem' r = lf G N mem r
    unfold lf held
    rw [hm _ this]
  | f + 1, r, h1, hs, hr => by
    by_cases hle : G.size ≤ r
    · have : r - G.size ≠ g := fun e => hr 0 (by simp; omega)
      show (if G.size ≤ r then lf G N mem' r else _) = (if G.size ≤ r then lf G N mem r else _)
      rw [if_pos hle, if_pos hle]
      unfold lf held
      rw [hm _ this]
    · have e : r * 2 ^ (f + 1) = 2 * r * 2 ^ f := by rw [Nat.pow_succ, Nat.mul_comm (2 ^ f) 2, ← Nat.mul_assoc, Nat.mul_comm r 2]
      have far : ∀ q, q / 2 = r → ∀ i, (G.size + g) / 2 ^ i ≠ q := fun q hq i e => hr (i + 1) (by rw [Nat.pow_succ, ← Nat.div_div_eq_div_mul, e, hq])
      have h3 := nd_far G N mem mem' g hm f (2 * r) (by omega) (by rw [← e]; exact hs) (far _ (by omega))
      have h4 := nd_far G N mem mem' g hm f (2 * r + 1) (by omega) (Nat.le_trans (by rw [← e]; exact hs) (Nat.mul_le_mul_right _ (by omega))) (far _ (by omega))
      show (if G.size ≤ r then _ else cmb (nd G N mem' f (2 * r)) (nd G N mem' f (2 * r + 1))) = (if G.size ≤ r then _ else cmb (nd G N mem f (2 * r)) (nd G N mem f (2 * r + 1)))
      rw [if_neg hle, if_neg hle, h3, h4]
/-! ### the leaves below a range, from the left -/
def fold (G : Geo) (N : Nat → Am) (mem : Nat → Bool) (acc : Option Am) (lo : Nat) : Nat → Option Am
  | 0 => acc
  | c + 1 => cmb (fold G N mem acc lo c) (lf G N mem (lo + c))
theorem fold_add (G : Geo) (N : Nat → Am) (mem : Nat → Bool) (acc : Option Am) (lo a : Nat) : ∀ b, fold G N mem acc lo (a + b) = fold G N mem (fold G N mem acc lo a) (lo + a) b
  | 0 => rfl
  | b + 1 => by
    show cmb (fold G N mem acc lo (a + b)) _ = cmb (fold G N mem _ (lo + a) b) _
    rw [fold_add G N mem acc lo a b, Nat.add_assoc]
    rfl
theorem fold_acc (G : Geo) (N : Nat → Am) (mem : Nat → Bool) (acc : Option Am) (lo : Nat) : ∀ c, fold G N mem acc lo c = cmb acc (fold G N mem none lo c)
  | 0 => (cmb_none acc).symm
  | c + 1 => by
    show cmb (fold G N mem acc lo c) _ = cmb acc (cmb (fold G N mem none lo c) _)
    rw [fold_acc G N mem acc lo c, cmb_assoc]
theorem fold_nd (G : Geo) (N : Nat → Am) (mem : Nat → Bool) : ∀ (k f r : Nat), k ≤ f → G.size ≤ r * 2 ^ k → (1 ≤ k → (r + 1) * 2 ^ (k - 1) ≤ G.size) → 1 ≤ r → fold G N mem none (r * 2 ^ k) (2 ^ k) = nd G N mem f r
  | 0, f, r, _, hs, _, _ => by
    have hs' : G.size ≤ r := by simpa using hs
    show cmb none (lf G N mem (r * 2 ^ 0 + 0)) = _
    have e : r * 2 ^ 0 + 0 = r := by simp
    rw [e]
    cases f with
    | zero => rfl
    | succ f =>
      show lf G N mem r = (if G.size ≤ r then _ else _)
      rw [if_pos hs']
  | k + 1, 0, r, hk, _, _, _ => by omega
  | k + 1, f + 1, r, hk, hs, hu, h1 => by
    have hu' : (r + 1) * 2 ^ k ≤ G.size := hu (by omega)
    have hp : 1 ≤ 2 ^ k := Nat.two_pow_pos k
    have hlt : r < G.size := by
      have : (r + 1) * 1 ≤ (r + 1) * 2 ^ k := Nat.mul_le_mul_left _ hp
      omega
    have e : 2 ^ (k + 1) = 2 ^ k + 2 ^ k := by rw [Nat.pow_succ]; omega
    have e1 : r * 2 ^ (k + 1) = 2 * r * 2 ^ k := by rw [Nat.pow_succ, Nat.mul_comm (2 ^ k) 2, ← Nat.mul_assoc, Nat.mul_comm r 2]
    have e2 : 2 * r * 2 ^ k + 2 ^ k = (2 * r + 1) * 2 ^ k := by rw [Nat.add_mul, Nat.one_mul]
    have half : ∀ q, q + 1 ≤ 2 * r + 2 → 1 ≤ k → (q + 1) * 2 ^ (k - 1) ≤ G.size := fun q hq hk1 => by
      have e3 : 2 ^ k = 2 * 2 ^ (k - 1) := by rw [Nat.mul_comm, ← Nat.pow_succ]; congr 1; omega
      have : (q + 1) * 2 ^ (k - 1) ≤ (2 * r + 2) * 2 ^ (k - 1) := Nat.mul_le_mul_right _ hq
      have e4 : (2 * r + 2) * 2 ^ (k - 1) = (r + 1) * 2 ^ k := by rw [e3, show 2 * r + 2 = (r + 1) * 2 by omega, Nat.mul_assoc]
      omega
    have i1 := fold_nd G N mem k f (2 * r) (by omega) (by rw [← e1]; exact hs) (half (2 * r) (by omega)) (by omega)
    have i2 := fold_nd G N mem k f (2 * r + 1) (by omega) (by rw [← e2]; rw [e1] at hs; omega) (half (2 * r + 1) (by omega)) (by omega)
    show _ = (if G.size ≤ r then _ else cmb (nd G N mem f (2 * r)) (nd G N mem f (2 * r + 1)))
    rw [if_neg (by omega), e1, e, fold_add, fold_acc, e2, i1, i2]
end Go.Proofs.Ybulkbtdo.U
