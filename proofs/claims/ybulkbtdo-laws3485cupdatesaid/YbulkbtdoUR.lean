/-
  LawS3485CUpdate: the plain part: one place flipped.
-/
import Derived.Test.YbulkbtdoUQ
namespace Go.Proofs.Ybulkbtdo.U
open Go.RowKit
set_option maxRecDepth 100000
def flipM (mem : Nat → Bool) (g k : Nat) : Bool := if k = g then !mem k else mem k
theorem xor_bit (v b : Nat) (hv : v < 18446744073709551616) (hb : b < 64) : bits .xor .u64 (v : Int) (IntKind.u64.wrap (2 ^ b)) = ((v ^^^ 2 ^ b : Nat) : Int) ∧ v ^^^ 2 ^ b < 18446744073709551616 := by
  obtain ⟨hw, hp⟩ := wrap_pow b hb
  rw [hw]
  exact ⟨bits_xor_u64_nat v (2 ^ b) hv hp, Nat.xor_lt_two_pow (n := 64) hv hp⟩
theorem flip_bit {n g : Nat} {V : Nat → Nat} {mem : Nat → Bool} (h : ∀ k, k < n → (V (k / 64)).testBit (k % 64) = mem k) : ∀ k, k < n → ((fun j => if j = g / 64 then V (g / 64) ^^^ 2 ^ (g % 64) else V j) (k / 64)).testBit (k % 64) = flipM mem g k := by
  intro k hk
  show (if k / 64 = g / 64 then V (g / 64) ^^^ 2 ^ (g % 64) else V (k / 64)).testBit (k % 64) = _
  have hk0 := h k hk
  unfold flipM
  by_cases e : k / 64 = g / 64
  · rw [if_pos e, Nat.testBit_xor, Nat.testBit_two_pow, ← e, hk0]
    by_cases e2 : k = g
    · subst e2
      rw [if_pos rfl]
      simp
    · have : ¬ g % 64 = k % 64 := by omega
      rw [if_neg e2, decide_eq_false this, Bool.xor_false]
  · rw [if_neg e, hk0, if_neg (fun e' => e (by rw [e']))]
/-- a range above no changed place keeps its need -/
theorem ND_far {G : Geo} {N : Nat → Am} {mem : Nat → Bool} {g q : Nat} (h256 : G.size ≤ 256) (hq : 1 ≤ q) (h : ∀ i, (G.size + g) / 2 ^ i ≠ q) : ND G N (flipM mem g) q = ND G N mem q := by
  refine nd_far G N mem (flipM mem g) g (fun p hp => by unfold flipM; rw [if_neg hp]) 9 q hq ?_ h
  have : (2 : Nat) ^ 9 = 512 := by decide
  omega
/-- the halves of a range: one at most lies above the changed place -/
theorem ND_up {G : Geo} {N : Nat → Am} {mem mem' : Nat → Bool} {r : Nat} (h256 : G.size ≤ 256) (hr1 : 1 ≤ r) (hr2 : r < G.size) (h1 : ND G N mem' (2 * r) = ND G N mem (2 * r)) (h2 : ND G N mem' (2 * r + 1) = ND G N mem (2 * r + 1)) : ND G N mem' r = ND G N mem r := by
  rw [ND_inner hr2 hr1 h256, ND_inner hr2 hr1 h256, h1, h2]
theorem lf_geo {G G' : Geo} (hs : G'.size = G.size) (hn : G'.n = G.n) (N : Nat → Am) (mem : Nat → Bool) (l : Nat) : lf G' N mem l = lf G N mem l := by
  unfold lf held
  rw [hs, hn]
theorem nd_geo {G G' : Geo} (hs : G'.size = G.size) (hn : G'.n = G.n) (N : Nat → Am) (mem : Nat → Bool) : ∀ f r, nd G' N mem f r = nd G N mem f r
  | 0, r => lf_geo hs hn N mem r
  | f + 1, r => by
    show (if G'.size ≤ r then lf G' N mem r else cmb (nd G' N mem f (2 * r)) (nd G' N mem f (2 * r + 1))) = (if G.size ≤ r then lf G N mem r else cmb (nd G N mem f (2 * r)) (nd G N mem f (2 * r + 1)))
    rw [lf_geo hs hn, nd_geo hs hn N mem f, nd_geo hs hn N mem f, hs]
theorem Good.geo {G G' : Geo} (hs : G'.size = G.size) (hn : G'.n = G.n) {N : Nat → Am} {mem : Nat → Bool} {al : Bool} {X : Cur} {q : Nat} (h : Good G N mem al X q) : Good G' N mem al X q := by
  unfold Good ND at h ⊢
  rw [nd_geo hs hn]
  exact h
/-! ### the way up -/
/-- where the loop stands: r is next, ch whether the range below changed -/
def Flip (G : Geo) (N : Nat → Am) (mem mem' : Nat → Bool) (g : Nat) (al : Bool) (X : Cur) (r : Nat) (ch : Bool) : Prop :=
  (∃ i, r = (G.size + g) / 2 ^ (i + 1)) ∧ (∀ q, 1 ≤ q → q < G.size → q ≤ r → Good G N mem al X q) ∧ (∀ q, 1 ≤ q → q < G.size → ((∀ j, (G.size + g) / 2 ^ j ≠ q) ∨ r < q) → Good G N mem' al X q) ∧ (ch = false → ∀ q, 1 ≤ q → q < G.size → Good G N mem' al X q)
theorem anc_le {A i j : Nat} (h : i ≤ j) : A / 2 ^ j ≤ A / 2 ^ i := Nat.div_le_div_left (Nat.pow_le_pow_right (by decide) h) (Nat.two_pow_pos i)
theorem anc_half (A i : Nat) : A / 2 ^ (i + 1) = A / 2 ^ i / 2 := by rw [Nat.pow_succ, ← Nat.div_div_eq_div_mul]
theorem Flip.start {G : Geo} {N : Nat → Am} {mem : Nat → Bool} {g : Nat} {al : Bool} {X : Cur} (h256 : G.size ≤ 256) (h : ∀ q, 1 ≤ q → q < G.size → Good G N mem al X q) : Flip G N mem (flipM mem g) g al X ((G.size + g) / 2) true := by
  refine ⟨⟨0, by simp⟩, fun q h1 h2 _ => h q h1 h2, fun q h1 h2 h3 => (h q h1 h2).to (ND_far h256 h1 fun j e => ?_), fun e => by cases e⟩
  rcases h3 with h3 | h3
  · exact h3 j e
  · cases j with
    | zero => simp at e; omega
    | succ j =>
      have := anc_le (A := G.size + g) (i := 1) (j := j + 1) (by omega)
      rw [e] at this
      simp at this
      omega
/-- an unchanged need goes up -/
theorem ND_ups {G : Geo} {N : Nat → Am} {mem : Nat → Bool} {g i : Nat} (h256 : G.size ≤ 256) (hlt : (G.size + g) / 2 ^ i < G.size) (h : ND G N (flipM mem g) ((G.size + g) / 2 ^ i) = ND G N mem ((G.size + g) / 2 ^ i)) : ∀ k, 1 ≤ (G.size + g) / 2 ^ (i + k) → ND G N (flipM mem g) ((G.size + g) / 2 ^ (i + k)) = ND G N mem ((G.size + g) / 2 ^ (i + k))
  | 0, _ => h
  | k + 1, h1 => by
    have e := anc_half (G.size + g) (i + k)
    have e' : i + (k + 1) = i + k + 1 := rfl
    rw [e'] at h1 ⊢
    have ih := ND_ups h256 hlt h k (by omega)
    have hle := anc_le (A := G.size + g) (i := i) (j := i + k) (by omega)
    -- the other half lies above no changed place
    have far : ∀ s, s / 2 = (G.size + g) / 2 ^ (i + k + 1) → s ≠ (G.size + g) / 2 ^ (i + k) → ND G N (flipM mem g) s = ND G N mem s := fun s hs hne => by
      refine ND_far h256 (by omega) fun j ej => ?_
      rcases Nat.lt_trichotomy j (i + k) with hj | hj | hj
      · have := anc_le (A := G.size + g) (i := j + 1) (j := i + k) (by omega)
        rw [anc_half, ej] at this
        omega
      · exact hne (by rw [← ej, hj])
      · have := anc_le (A := G.size + g) (i := i + k + 1) (j := j) (by omega)
        rw [ej] at this
        omega
    refine ND_up h256 h1 (by omega) ?_ ?_
    · by_cases c : 2 * ((G.size + g) / 2 ^ (i + k + 1)) = (G.size + g) / 2 ^ (i + k)
      · rw [c]; exact ih
      · exact far _ (by omega) c
    · by_cases c : 2 * ((G.size + g) / 2 ^ (i + k + 1)) + 1 = (G.size + g) / 2 ^ (i + k)
      · rw [c]; exact ih
      · exact far _ (by omega) c
theorem Flip.step {G : Geo} {N : Nat → Am} {mem : Nat → Bool} {g : Nat} {al : Bool} {X X' : Cur} {r : Nat} {ch ch' : Bool} (h256 : G.size ≤ 256) (hr1 : 1 ≤ r) (hr2 : r < G.size) (h : Flip G N mem (flipM mem g) g al X r ch)
    (hk : ∀ j, j ≠ r - 1 → X'.lo j = X.lo j ∧ X'.Le j = X.Le j) (hg : Good G N (flipM mem g) al X' r) (hc : ch' = false → X'.lo (r - 1) = X.lo (r - 1) ∧ X'.Le (r - 1) = X.Le (r - 1)) : Flip G N mem (flipM mem g) g al X' (r / 2) ch' := by
  obtain ⟨⟨i, hi⟩, h1, h2, _⟩ := h
  have kept : ∀ {m : Nat → Bool} {q : Nat}, 1 ≤ q → q ≠ r → Good G N m al X q → Good G N m al X' q := fun {m q} hq hne hgq => hgq.kept (hk (q - 1) (by omega)).1 (hk (q - 1) (by omega)).2
  -- an ancestor below r is at most r / 2
  have anc : ∀ q, q < r → (∃ j, (G.size + g) / 2 ^ j = q) → ∃ k, q = (G.size + g) / 2 ^ (i + 1 + k) ∧ q ≤ r / 2 := fun q hq ⟨j, ej⟩ => by
    rcases Nat.lt_or_ge (i + 1) j with hj | hj
    · obtain ⟨k, rfl⟩ : ∃ k, j = i + 1 + k := ⟨j - (i + 1), by omega⟩
      refine ⟨k, ej.symm, ?_⟩
      have := anc_le (A := G.size + g) (i := i + 1 + 1) (j := i + 1 + k) (by omega)
      rw [anc_half, ← hi, ej] at this
      exact this
    · have := anc_le (A := G.size + g) hj
      rw [ej, ← hi] at this
      omega
  refine ⟨⟨i + 1, by rw [anc_half, ← hi]⟩, fun q hq1 hq2 hq3 => kept hq1 (by omega) (h1 q hq1 hq2 (by omega)), fun q hq1 hq2 hq3 => ?_, fun hch q hq1 hq2 => ?_⟩
  · by_cases e : q = r
    · rw [e]; exact hg
    · refine kept hq1 e (h2 q hq1 hq2 ?_)
      by_cases hlt : r < q
      · exact .inr hlt
      · refine .inl fun j ej => ?_
        obtain ⟨k, _, hle⟩ := anc q (by omega) ⟨j, ej⟩
        rcases hq3 with hq3 | hq3
        · exact hq3 j ej
        · omega
  · by_cases e : q = r
    · rw [e]; exact hg
    · by_cases hlt : r < q
      · exact kept hq1 e (h2 q hq1 hq2 (.inr hlt))
      · by_cases ha : ∃ j, (G.size + g) / 2 ^ j = q
        · obtain ⟨k, ek, _⟩ := anc q (by omega) ha
          obtain ⟨c1, c2⟩ := hc hch
          have hs := (h1 r hr1 hr2 (Nat.le_refl _)).same hg c1 c2
          refine (kept hq1 e (h1 q hq1 hq2 (by omega))).to ?_
          rw [ek]
          rw [hi] at hs hr2
          exact ND_ups h256 hr2 hs k (by omega)
        · exact kept hq1 e (h2 q hq1 hq2 (.inl fun j ej => ha ⟨j, ej⟩))
theorem Flip.done {G : Geo} {N : Nat → Am} {mem mem' : Nat → Bool} {g : Nat} {al : Bool} {X : Cur} {r : Nat} {ch : Bool} (h : Flip G N mem mem' g al X r ch) (hd : r = 0 ∨ ch = false) : ∀ q, 1 ≤ q → q < G.size → Good G N mem' al X q := by
  obtain ⟨_, _, h2, h3⟩ := h
  rcases hd with hd | hd
  · exact fun q h1 h4 => h2 q h1 h4 (.inr (by omega))
  · exact h3 hd
/-! ### the tree, its struct copied; one row beside it changed -/
theorem Tree.copy {w w' : World} {G : Geo} {N : Nat → Am} {nv : Nat → Value} {al : Bool} {X : Cur} {f : Nat → Value} {T S : Nat} (h : Tree w G N nv al X) (hc : New w w') (hf : RowIs w' T 51 12 f) (hT : w.heap.size ≤ T) (hS : w.heap.size ≤ S) (hS' : S < w'.heap.size)
    (e : f 0 = .int .i64 (G.size : Int) ∧ f 1 = .slice none 0 0 ∧ f 3 = .slice (some ⟨G.GN, 0, none⟩) G.n G.n ∧ f 4 = .slice (some ⟨G.GL, 0, none⟩) (G.size - 1) (G.size - 1) ∧ f 5 = .slice (some ⟨G.GW, 0, none⟩) ((G.size - 1) * 8) ((G.size - 1) * 8) ∧ f 6 = .slice (some ⟨G.GO, 0, none⟩) (G.size - 1) (G.size - 1) ∧ f 10 = X.vr ∧ f 11 = .bool al)
    (ex : ∀ k, k = 2 ∨ k = 7 ∨ k = 8 ∨ k = 9 → ∃ a n c, f k = .slice a n c) :
    Tree w' { G with T := T, ow := fun k => G.ow k ∧ k ≠ T ∧ k ≠ S } N nv al X := by
  have ok := h.ok
  have hTl := hf.lt
  have own : ∀ {v : Value} {L : Am}, OwnG w G v L → OwnG w' { G with T := T, ow := fun k => G.ow k ∧ k ≠ T ∧ k ≠ S } v L := fun ho => ⟨OwnAm.chg ho.1 hc (fun _ _ h => h), fun b hb => ⟨(ho.ge b hb).1, by have := (ho.ge b hb).2; omega, by have := (ho.ge b hb).2; omega⟩⟩
  refine ⟨⟨ok.n256, ok.s1, ok.s256, ok.ns, ⟨fun h => h.2.1 rfl, fun h => ok.t.2.1 h.1, fun h => ok.t.2.2.1 h.1, fun h => ok.t.2.2.2.1 h.1, fun h => ok.t.2.2.2.2 h.1⟩, ?_⟩, fun b hb => ⟨h.sz b (Nat.le_trans hc.size hb), ?_, ?_⟩, ⟨f, hf, e⟩, h.nr.chg hc (fun h => h), fun i hi => (h.na i hi).new hc, fun i hi b hb hD => ?_, h.no, h.lr.chg hc (fun h => h), fun k hk => own (h.la k hk), h.lok, own h.rr, h.ss, h.or.chg hc (fun h => h), h.wr.chg hc (fun h => h), h.o9, h.w8, fun k hk => ?_⟩
  · have h1 := h.nr.lt
    have h2 := h.lr.lt
    have h3 := h.wr.lt
    have h4 := h.or.lt
    have d := ok.d
    show T ≠ G.GN ∧ T ≠ G.GL ∧ T ≠ G.GW ∧ T ≠ G.GO ∧ G.GN ≠ G.GL ∧ G.GN ≠ G.GW ∧ G.GN ≠ G.GO ∧ G.GL ≠ G.GW ∧ G.GL ≠ G.GO ∧ G.GW ≠ G.GO
    omega
  · omega
  · omega
  · have hn := h.nb i hi b hb
    have hlt : b < w.heap.size := by
      apply Nat.lt_of_not_le
      intro hle
      exact hn (.inr (.inr (.inr (.inr (h.sz b hle)))))
    rcases hD with hD | hD | hD | hD | hD
    · have hD' : b = T := hD
      omega
    · exact hn (.inr (.inl hD))
    · exact hn (.inr (.inr (.inl hD)))
    · exact hn (.inr (.inr (.inr (.inl hD))))
    · exact hn (.inr (.inr (.inr (.inr hD.1))))
  · obtain ⟨a, n, c, ek⟩ := ex k hk
    refine ⟨a, n, c, ?_⟩
    rw [← ek]
    exact hf.cell (by omega)
theorem Tree.poke {w w' : World} {G : Geo} {N : Nat → Am} {nv : Nat → Value} {al : Bool} {X : Cur} {B m : Nat} {ty : TypeId} {u : Nat → Value} (h : Tree w G N nv al X) (hc : Chg (fun k => k = B) w w') (hB : RowIs w B ty m u) (hd : ¬ Dt G B) (hty : ty ≠ 49) (hu : ∀ j z, u j ≠ .int .i64 z) : Tree w' G N nv al X := by
  obtain ⟨f, hf, r⟩ := h.tr
  have own : ∀ {v : Value} {L : Am}, OwnG w G v L → ∀ b, v.ownBlock = some b → ¬ b = B := fun ho b hb e => hd (.inr (.inr (.inr (.inr (by rw [← e]; exact (ho.ge b hb).1)))))
  have hGN : ¬ G.GN = B := fun e => by
    obtain ⟨c1, h1, _⟩ := hB
    obtain ⟨c2, h2, _⟩ := h.nr
    rw [e, h1] at h2
    cases h2
    exact hty rfl
  have hcell : ∀ j z, w.cell? ⟨B, j, none⟩ ≠ some (.int .i64 z) := fun j z e => by
    by_cases hj : j < m
    · rw [hB.cell hj] at e
      exact hu j z (Option.some.inj e)
    · obtain ⟨c1, h1, h2, _⟩ := hB
      simp only [World.cell?, h1] at e
      have := (Array.getElem?_eq_some_iff.1 e).1
      omega
  have am : ∀ {v : Value} {L : Am}, AmV w v L → AmV w' v L := fun {v L} hv => by
    obtain ⟨a, c, rfl, hl, hx⟩ := hv
    refine ⟨a, c, rfl, hl, fun i p hp => ?_⟩
    obtain ⟨g, rfl, h1, h2⟩ := hx i p hp
    have hne : ¬ g = B := fun e => by rw [e] at h1; exact hcell _ _ h1
    exact ⟨g, rfl, hc.cell h1 hne, hc.cell h2 hne⟩
  exact ⟨h.ok, fun b hb => h.sz b (Nat.le_trans hc.size hb), ⟨f, hf.chg hc (fun e => hd (.inl e.symm)), r⟩, h.nr.chg hc hGN, fun i hi => am (h.na i hi), h.nb, h.no, h.lr.chg hc (fun e => hd (.inr (.inl e.symm))), fun k hk => (h.la k hk).chg hc (own (h.la k hk)), h.lok, h.rr.chg hc (own h.rr), h.ss, h.or.chg hc (fun e => hd (.inr (.inr (.inr (.inl e.symm))))), h.wr.chg hc (fun e => hd (.inr (.inr (.inl e.symm)))), h.o9, h.w8, fun k hk => by
    obtain ⟨a, n, c, h1⟩ := h.tx k hk
    exact ⟨a, n, c, hc.cell h1 (fun e => hd (.inl e.symm))⟩⟩
end Go.Proofs.Ybulkbtdo.U
