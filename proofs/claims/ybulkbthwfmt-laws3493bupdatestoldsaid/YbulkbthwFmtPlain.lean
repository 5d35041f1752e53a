/-
  PLAIN MATHEMATICS: the mixer is onto, each step reaches a new input, so the steps reach every cell.
-/
import Derived.Laws.Bits64
namespace Go.Proofs.YbulkbthwFmt

def xsh (X s : Nat) : Nat := X ^^^ X / s
def mixN (X : Nat) : Nat :=
  xsh (xsh (xsh X 1073741824 * 13787848793156543929 % 18446744073709551616) 134217728 * 10723151780598845931 % 18446744073709551616) 2147483648
def cellN (h step n : Nat) : Nat := mixN ((h + step * 11400714819323198485 % 18446744073709551616) % 18446744073709551616) * n / 18446744073709551616

theorem xsh_lt {X : Nat} (s : Nat) (h : X < 18446744073709551616) : xsh X s < 18446744073709551616 := by
  have h1 : X / s < 2 ^ 64 := Nat.lt_of_le_of_lt (Nat.div_le_self _ _) h
  have : X ^^^ X / s < 2 ^ 64 := Nat.xor_lt_two_pow h h1
  exact this
theorem mixN_lt (X : Nat) : mixN X < 18446744073709551616 := xsh_lt _ (Nat.mod_lt _ (by decide))
theorem cellN_lt (h step n : Nat) (hn : 0 < n) : cellN h step n < n := by
  unfold cellN
  have := mixN_lt ((h + step * 11400714819323198485 % 18446744073709551616) % 18446744073709551616)
  generalize mixN ((h + step * 11400714819323198485 % 18446744073709551616) % 18446744073709551616) = x at this
  rw [Nat.div_lt_iff_lt_mul (by decide), Nat.mul_comm n]
  exact Nat.mul_lt_mul_of_pos_right this hn

theorem xsh_onto {y : Nat} (k : Nat) (hk : 64 ≤ 3 * k) (hy : y < 18446744073709551616) : ∃ x, x < 18446744073709551616 ∧ xsh x (2 ^ k) = y := by
  have hz : y / 2 ^ (k + k + k) = 0 := Nat.div_eq_of_lt (Nat.lt_of_lt_of_le hy (by
    have : (18446744073709551616 : Nat) = 2 ^ 64 := by decide
    rw [this]
    exact Nat.pow_le_pow_right (by decide) (by omega)))
  refine ⟨y ^^^ y / 2 ^ k ^^^ y / 2 ^ (k + k), ?_, ?_⟩
  · have h1 : y / 2 ^ k < 2 ^ 64 := Nat.lt_of_le_of_lt (Nat.div_le_self _ _) hy
    have h2 : y / 2 ^ (k + k) < 2 ^ 64 := Nat.lt_of_le_of_lt (Nat.div_le_self _ _) hy
    exact Nat.xor_lt_two_pow (Nat.xor_lt_two_pow hy h1) h2
  · unfold xsh
    apply Nat.eq_of_testBit_eq
    intro i
    have e0 : ∀ m, Nat.testBit (y / 2 ^ m) i = Nat.testBit y (m + i) := fun m => by
      rw [← Nat.shiftRight_eq_div_pow, Nat.testBit_shiftRight]
    have e1 : ∀ X : Nat, Nat.testBit (X / 2 ^ k) i = Nat.testBit X (k + i) := fun X => by
      rw [← Nat.shiftRight_eq_div_pow, Nat.testBit_shiftRight]
    have e2 : ∀ m, Nat.testBit (y / 2 ^ m) (k + i) = Nat.testBit y (m + (k + i)) := fun m => by
      rw [← Nat.shiftRight_eq_div_pow, Nat.testBit_shiftRight]
    have e3 : Nat.testBit y (k + k + (k + i)) = false := by
      have : Nat.testBit (y / 2 ^ (k + k + k)) i = false := by rw [hz]; simp
      rw [e0] at this
      rw [show k + k + (k + i) = k + k + k + i by omega]; exact this
    simp only [Nat.testBit_xor, e1, e0, e2, e3]
    rw [show k + (k + i) = k + k + i by omega]
    cases Nat.testBit y i <;> cases Nat.testBit y (k + i) <;> cases Nat.testBit y (k + k + i) <;> rfl

theorem mul_onto {y C D : Nat} (hC : C * D % 18446744073709551616 = 1) (hy : y < 18446744073709551616) : (y * D % 18446744073709551616) * C % 18446744073709551616 = y := by
  rw [Nat.mod_mul_mod, Nat.mul_assoc, Nat.mul_comm D C, Nat.mul_mod, hC, Nat.mul_one, Nat.mod_mod, Nat.mod_eq_of_lt hy]

theorem mix_onto {y : Nat} (hy : y < 18446744073709551616) : ∃ x, x < 18446744073709551616 ∧ mixN x = y := by
  obtain ⟨a, ha, ea⟩ := xsh_onto (y := y) 31 (by decide) hy
  obtain ⟨b, hb, eb⟩ := xsh_onto (y := a * 3573116690164977347 % 18446744073709551616) 27 (by decide) (Nat.mod_lt _ (by decide))
  obtain ⟨c, hc, ec⟩ := xsh_onto (y := b * 10871156337175269513 % 18446744073709551616) 30 (by decide) (Nat.mod_lt _ (by decide))
  have k1 : (2 : Nat) ^ 31 = 2147483648 := by decide
  have k2 : (2 : Nat) ^ 27 = 134217728 := by decide
  have k3 : (2 : Nat) ^ 30 = 1073741824 := by decide
  rw [k1] at ea
  rw [k2] at eb
  rw [k3] at ec
  refine ⟨c, hc, ?_⟩
  unfold mixN
  rw [ec, mul_onto (by decide) hb, eb, mul_onto (by decide) ha, ea]

theorem scale_onto {n c : Nat} (hn : n < 18446744073709551616) (hc : c < n) : ∃ x, x < 18446744073709551616 ∧ x * n / 18446744073709551616 = c := by
  have hpos : 0 < n := by omega
  refine ⟨(c * 18446744073709551616 + (n - 1)) / n, ?_, ?_⟩
  · rw [Nat.div_lt_iff_lt_mul hpos]
    have : c * 18446744073709551616 ≤ (n - 1) * 18446744073709551616 := Nat.mul_le_mul_right _ (by omega)
    omega
  · have h1 := Nat.div_add_mod (c * 18446744073709551616 + (n - 1)) n
    have h2 := Nat.mod_lt (c * 18446744073709551616 + (n - 1)) hpos
    rw [Nat.mul_comm] at h1
    generalize (c * 18446744073709551616 + (n - 1)) / n * n = q at *
    omega

/-- the steps reach every cell -/
theorem cell_onto {h n c : Nat} (hh : h < 18446744073709551616) (hn : n < 18446744073709551616) (hc : c < n) : ∃ step, step < 18446744073709551616 ∧ cellN h step n = c := by
  obtain ⟨x, hx, ex⟩ := scale_onto hn hc
  obtain ⟨z, hz, ez⟩ := mix_onto hx
  refine ⟨(z + 18446744073709551616 - h) * 17428512612931826493 % 18446744073709551616, Nat.mod_lt _ (by decide), ?_⟩
  unfold cellN
  have e : ((z + 18446744073709551616 - h) * 17428512612931826493 % 18446744073709551616) * 11400714819323198485 % 18446744073709551616 = (z + 18446744073709551616 - h) % 18446744073709551616 := by
    rw [Nat.mod_mul_mod, Nat.mul_assoc, Nat.mul_mod, show 17428512612931826493 * 11400714819323198485 % 18446744073709551616 = 1 by decide, Nat.mul_one, Nat.mod_mod]
  rw [e, show (h + (z + 18446744073709551616 - h) % 18446744073709551616) % 18446744073709551616 = z by omega, ez, ex]

/-- a list that holds 0 .. n-1 has n members at least -/
theorem pigeon : ∀ (n : Nat) (l : List Int), (∀ c : Nat, c < n → (c : Int) ∈ l) → n ≤ l.length
  | 0, _, _ => Nat.zero_le _
  | n + 1, l, h => by
    have hm := h n (by omega)
    have := pigeon n (l.erase (n : Int)) (fun c hc => (List.mem_erase_of_ne (by omega)).2 (h c (by omega)))
    rw [List.length_erase_of_mem hm] at this
    have hp : 0 < l.length := List.length_pos_of_mem hm
    omega

/-- how many steps there are -/
def allSteps : Nat := 18446744073709551616
/-- while fewer cells than n have been gathered, fewer than all steps have been gone -/
theorem steps_left {h n r : Nat} {zs : List Int} (hh : h < 18446744073709551616) (hn : n < 18446744073709551616) (hz : zs.length < n) (hr : r ≤ allSteps)
    (hall : ∀ i, i < r → (cellN h ((1 + i) % 18446744073709551616) n : Int) ∈ zs) : r < allSteps := by
  rcases Nat.lt_or_ge r allSteps with h1 | h1
  · exact h1
  · exfalso
    have hr' : r = allSteps := by omega
    have : n ≤ zs.length := pigeon n zs (fun c hc => by
      obtain ⟨st, hst, e⟩ := cell_onto hh hn hc
      have hi : (st + 18446744073709551615) % 18446744073709551616 < r := by
        rw [hr']
        exact Nat.mod_lt _ (by decide)
      have := hall _ hi
      rw [show (1 + (st + 18446744073709551615) % 18446744073709551616) % 18446744073709551616 = st by omega, e] at this
      exact this)
    omega
end Go.Proofs.YbulkbthwFmt
