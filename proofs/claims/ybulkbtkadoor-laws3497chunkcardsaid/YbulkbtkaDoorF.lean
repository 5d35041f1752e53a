/-
  THE FOUR GROWING SLICES OF THE LAW: la, lb, changes, body.
-/
import Derived.Test.YbulkbtkaDoorE
namespace Go.Proofs.YbulkbtkaDoor
open Go.RowKit
def FreeOf (g : Nat) (va vb vc vy : Value) : Prop := some g ≠ va.ownBlock ∧ some g ≠ vb.ownBlock ∧ some g ≠ vc.ownBlock ∧ some g ≠ vy.ownBlock
theorem free_step {w w' : World} {u u' : Value} {g : Nat} (hg : g < w.heap.size) (h : some g ≠ u.ownBlock) (hs : Step w u w' u') : some g ≠ u'.ownBlock := by
  rcases hs.2 with e | ⟨k, e, hk⟩
  · rw [e]; exact h
  · rw [e]; intro h; cases h; omega
def Apart (v u : Value) : Prop := v.ownBlock = none ∨ v.ownBlock ≠ u.ownBlock
theorem Apart.symm {v u : Value} (h : Apart v u) : Apart u v := by
  unfold Apart at h ⊢
  cases hv : v.ownBlock <;> cases hu : u.ownBlock <;> simp_all
  intro e; exact h e.symm
theorem apart_step {w w' : World} {v u u' : Value} (ho : ∀ j, v.ownBlock = some j → j < w.heap.size) (h : Apart v u) (hs : Step w u w' u') : Apart v u' := by
  rcases hs.2 with e | ⟨k, e, hk⟩
  · unfold Apart; rw [e]; exact h
  · unfold Apart
    cases hv : v.ownBlock with
    | none => exact .inl rfl
    | some j =>
      right
      rw [e]
      intro h
      cases h
      have := ho _ hv
      omega
def ApartT (v : Value) (t : Option Nat) : Prop := v.ownBlock = none ∨ v.ownBlock ≠ t
theorem apartT_step {w w' : World} {u u' : Value} {t : Option Nat} (ht : ∀ k, t = some k → k < w.heap.size) (h : ApartT u t) (hs : Step w u w' u') : ApartT u' t := by
  unfold ApartT at *
  rcases hs.2 with e | ⟨k, e, hk⟩
  · rw [e]; exact h
  · right
    rw [e]
    intro h
    have := ht k h.symm
    omega
def LineV (w : World) (t : Option Nat) (va vb vc vy : Value) (x : Value) (M : Bytes) : Prop :=
  ∃ g c, x = .slice (some ⟨g, 0, none⟩) M.length c ∧ g < w.heap.size ∧ Line w g M ∧ FreeOf g va vb vc vy ∧ some g ≠ t ∧ M.length ≤ 3
def LinesV (w : World) (t : Option Nat) (va vb vc vy : Value) (pa : List Value) (LA : List Bytes) : Prop :=
  pa.length = LA.length ∧ ∀ i x, pa[i]? = some x → LineV w t va vb vc vy x (LA.getD i [])
theorem LinesV.push {w : World} {t : Option Nat} {va vb vc vy : Value} {pa : List Value} {LA : List Bytes} (h : LinesV w t va vb vc vy pa LA) {x : Value} {M : Bytes} (hx : LineV w t va vb vc vy x M) : LinesV w t va vb vc vy (pa ++ [x]) (LA ++ [M]) := by
  refine ⟨by simp [h.1], fun i y hy => ?_⟩
  by_cases e : i < pa.length
  · rw [List.getElem?_append_left e] at hy
    have := h.2 i y hy
    rw [List.getD_eq_getElem?_getD, List.getElem?_append_left (by rw [← h.1]; exact e), ← List.getD_eq_getElem?_getD]
    exact this
  · have hi : i = pa.length := by
      have := (List.getElem?_eq_some_iff.1 hy).1
      simp at this
      omega
    subst hi
    simp at hy
    subst hy
    rw [h.1]
    simpa using hx
theorem LinesV.map {w w' : World} {t t' : Option Nat} {va vb vc vy va' vb' vc' vy' : Value} {pa : List Value} {LA : List Bytes} (h : LinesV w t va vb vc vy pa LA) (f : ∀ x M, LineV w t va vb vc vy x M → LineV w' t' va' vb' vc' vy' x M) : LinesV w' t' va' vb' vc' vy' pa LA :=
  ⟨h.1, fun i x hx => f _ _ (h.2 i x hx)⟩
structure Reg (w : World) (B : Nat) (t : Option Nat) (va vb vc vy : Value) (pa pb pc : List Value) (n : Nat) (LA LB : List Bytes) (Y : Bytes) : Prop where
  oa : w.ownsRow B 22 1 va pa.length pa
  ob : w.ownsRow B 22 1 vb pb.length pb
  oc : w.ownsRow B 31 4 vc n pc
  oy : Own w B vy Y
  pab : Apart va vb
  pac : Apart va vc
  pay : Apart va vy
  pbc : Apart vb vc
  pby : Apart vb vy
  pcy : Apart vc vy
  la : LinesV w t va vb vc vy pa LA
  lb : LinesV w t va vb vc vy pb LB
  ta : ApartT va t
  tb : ApartT vb t
  tc : ApartT vc t
  ty : ApartT vy t
theorem own_lt {w : World} {B : Nat} {e : TypeId} {size : Nat} {v : Value} {n : Nat} {xs : List Value} (h : w.ownsRow B e size v n xs) : ∀ j, v.ownBlock = some j → j < w.heap.size := fun j hj => (World.ownsRow.lt h j hj).2
theorem grown_of_below {w w' : World} {r : Option Nat} (h : Below w.heap.size w w') : w.grownBy w' r := ⟨h.os, h.tape, h.output, h.size, fun k hk _ => h.block k hk⟩
/-- nothing old was touched -/
theorem LineV.later {w w' : World} {t : Option Nat} {va vb vc vy x : Value} {M : Bytes} (h : LineV w t va vb vc vy x M) (hb : Below w.heap.size w w') : LineV w' t va vb vc vy x M := by
  obtain ⟨g, c, rfl, hg, hl, r⟩ := h
  exact ⟨g, c, rfl, Nat.lt_of_lt_of_le hg hb.size, hl.below hb hg, r⟩
theorem own_later {w w' : World} {B : Nat} {e : TypeId} {size : Nat} {v : Value} {n : Nat} {xs : List Value} (h : w.ownsRow B e size v n xs) (hb : Below w.heap.size w w') : w'.ownsRow B e size v n xs :=
  World.ownsRow.kept (row := none) h (grown_of_below hb) (by cases v.ownBlock <;> simp)
theorem Reg.later {w w' : World} {B : Nat} {t : Option Nat} {va vb vc vy : Value} {pa pb pc : List Value} {n : Nat} {LA LB : List Bytes} {Y : Bytes} (h : Reg w B t va vb vc vy pa pb pc n LA LB Y) (hb : Below w.heap.size w w') : Reg w' B t va vb vc vy pa pb pc n LA LB Y :=
  ⟨own_later h.oa hb, own_later h.ob hb, own_later h.oc hb, own_later h.oy hb, h.pab, h.pac, h.pay, h.pbc, h.pby, h.pcy, h.la.map fun _ _ k => k.later hb, h.lb.map fun _ _ k => k.later hb, h.ta, h.tb, h.tc, h.ty⟩
/-- a block of its own is made -/
theorem Reg.newT {w : World} {B : Nat} {va vb vc vy : Value} {pa pb pc : List Value} {n : Nat} {LA LB : List Bytes} {Y : Bytes} (h : Reg w B none va vb vc vy pa pb pc n LA LB Y) (o : Obj) : Reg (w.alloc o) B (some w.heap.size) va vb vc vy pa pb pc n LA LB Y := by
  have hb : Below w.heap.size w (w.alloc o) := (Below.refl _ _).alloc (Nat.le_refl _) o
  have k := h.later hb
  have f : ∀ x M, LineV w none va vb vc vy x M → LineV (w.alloc o) (some w.heap.size) va vb vc vy x M := fun x M hx => by
    have hg := hx
    obtain ⟨g, c, rfl, hg, hl, hf, _, hm⟩ := hx
    exact ⟨g, c, rfl, Nat.lt_of_lt_of_le hg hb.size, hl.below hb hg, hf, (by intro e; cases e; omega), hm⟩
  have ap : ∀ {e : TypeId} {size : Nat} {v : Value} {n : Nat} {xs : List Value}, w.ownsRow B e size v n xs → ApartT v (some w.heap.size) := fun {e size v n xs} hv => .inr fun e => by
    have := own_lt hv _ e
    omega
  exact ⟨k.oa, k.ob, k.oc, k.oy, h.pab, h.pac, h.pay, h.pbc, h.pby, h.pcy, h.la.map f, h.lb.map f, ap h.oa, ap h.ob, ap h.oc, ap h.oy⟩
theorem Reg.dropT {w : World} {B : Nat} {t : Option Nat} {va vb vc vy : Value} {pa pb pc : List Value} {n : Nat} {LA LB : List Bytes} {Y : Bytes} (h : Reg w B t va vb vc vy pa pb pc n LA LB Y) : Reg w B none va vb vc vy pa pb pc n LA LB Y := by
  have f : ∀ x M, LineV w t va vb vc vy x M → LineV w none va vb vc vy x M := fun x M hx => by
    obtain ⟨g, c, rfl, hg, hl, hf, _, hm⟩ := hx
    exact ⟨g, c, rfl, hg, hl, hf, by simp, hm⟩
  have ap : ∀ v : Value, ApartT v none := fun v => by unfold ApartT; cases v.ownBlock <;> simp
  exact ⟨h.oa, h.ob, h.oc, h.oy, h.pab, h.pac, h.pay, h.pbc, h.pby, h.pcy, h.la.map f, h.lb.map f, ap _, ap _, ap _, ap _⟩
theorem Reg.setT {w : World} {B T : Nat} {va vb vc vy : Value} {pa pb pc : List Value} {n : Nat} {LA LB : List Bytes} {Y : Bytes} (h : Reg w B (some T) va vb vc vy pa pb pc n LA LB Y) (o : Nat) (u : Value) : Reg (w.setCell ⟨T, o, none⟩ u) B (some T) va vb vc vy pa pb pc n LA LB Y := by
  have hg : w.grownBy (w.setCell ⟨T, o, none⟩ u) (some T) := ⟨rfl, rfl, rfl, by simp, fun k _ hk => heap_setCell_other w ⟨T, o, none⟩ k u (fun e => hk (by simp [e]))⟩
  have f : ∀ x M, LineV w (some T) va vb vc vy x M → LineV (w.setCell ⟨T, o, none⟩ u) (some T) va vb vc vy x M := fun x M hx => by
    obtain ⟨g, c, rfl, hgg, hl, hf, ht, hm⟩ := hx
    exact ⟨g, c, rfl, by simpa using hgg, fun j v hj => hg.cell (hl j v hj) ht, hf, ht, hm⟩
  exact ⟨h.oa.kept hg h.ta, h.ob.kept hg h.tb, h.oc.kept hg h.tc, World.ownsRow.kept h.oy hg h.ty, h.pab, h.pac, h.pay, h.pbc, h.pby, h.pcy, h.la.map f, h.lb.map f, h.ta, h.tb, h.tc, h.ty⟩
theorem LineV.mk {w : World} {t : Option Nat} {va vb vc vy : Value} {pa pb pc : List Value} {n : Nat} {LA LB : List Bytes} {Y : Bytes} {B : Nat} {g c : Nat} {M : Bytes} {w' : World} (h : Reg w B t va vb vc vy pa pb pc n LA LB Y) (hg : w.heap.size ≤ g) (hg2 : g < w'.heap.size) (hl : Line w' g M) (ht : ∀ k, t = some k → k < w.heap.size) (hm : M.length ≤ 3) :
    LineV w' t va vb vc vy (.slice (some ⟨g, 0, none⟩) M.length c) M := by
  have ne : ∀ {e : TypeId} {size : Nat} {v : Value} {n : Nat} {xs : List Value}, w.ownsRow B e size v n xs → some g ≠ v.ownBlock := fun {e size v n xs} hv e => by
    have := own_lt hv _ e.symm
    omega
  exact ⟨g, c, rfl, hg2, hl, ⟨ne h.oa, ne h.ob, ne h.oc, ne h.oy⟩, (fun e => by have := ht g e.symm; omega), hm⟩
theorem LineV.stepA {w w' : World} {t : Option Nat} {va vb vc vy va' x : Value} {M : Bytes} (h : LineV w t va vb vc vy x M) (hs : Step w va w' va') : LineV w' t va' vb vc vy x M := by
  obtain ⟨g, c, rfl, hg, hl, hf, ht, hm⟩ := h
  exact ⟨g, c, rfl, Nat.lt_of_lt_of_le hg hs.1.size, hl.step hs hf.1, ⟨free_step hg hf.1 hs, hf.2.1, hf.2.2.1, hf.2.2.2⟩, ht, hm⟩
theorem FreeOf.stepA {w w' : World} {va vb vc vy va' : Value} {g : Nat} (hf : FreeOf g va vb vc vy) (hg : g < w.heap.size) (hs : Step w va w' va') : FreeOf g va' vb vc vy := ⟨free_step hg hf.1 hs, hf.2.1, hf.2.2.1, hf.2.2.2⟩
theorem Reg.pushA {w w' : World} {B : Nat} {t : Option Nat} {va vb vc vy va' : Value} {pa pb pc : List Value} {n : Nat} {LA LB : List Bytes} {Y : Bytes} {x : Value} {M : Bytes} (hx : LineV w t va vb vc vy x M) (h : Reg w B t va vb vc vy pa pb pc n LA LB Y) (hs : Step w va w' va') (ho : w'.ownsRow B 22 1 va' (pa ++ [x]).length (pa ++ [x])) (ht : ∀ k, t = some k → k < w.heap.size) :
    Reg w' B t va' vb vc vy (pa ++ [x]) pb pc n (LA ++ [M]) LB Y :=
  ⟨ho, h.ob.kept hs.1 (h.pab.symm), h.oc.kept hs.1 (h.pac.symm), World.ownsRow.kept h.oy hs.1 (h.pay.symm), (apart_step (own_lt h.ob) h.pab.symm hs).symm, (apart_step (own_lt h.oc) h.pac.symm hs).symm, (apart_step (own_lt h.oy) h.pay.symm hs).symm, h.pbc, h.pby, h.pcy, (h.la.push hx).map fun _ _ k => k.stepA hs, h.lb.map fun _ _ k => k.stepA hs, apartT_step ht h.ta hs, h.tb, h.tc, h.ty⟩
theorem LineV.stepB {w w' : World} {t : Option Nat} {va vb vc vy vb' x : Value} {M : Bytes} (h : LineV w t va vb vc vy x M) (hs : Step w vb w' vb') : LineV w' t va vb' vc vy x M := by
  obtain ⟨g, c, rfl, hg, hl, hf, ht, hm⟩ := h
  exact ⟨g, c, rfl, Nat.lt_of_lt_of_le hg hs.1.size, hl.step hs hf.2.1, ⟨hf.1, free_step hg hf.2.1 hs, hf.2.2.1, hf.2.2.2⟩, ht, hm⟩
theorem FreeOf.stepB {w w' : World} {va vb vc vy vb' : Value} {g : Nat} (hf : FreeOf g va vb vc vy) (hg : g < w.heap.size) (hs : Step w vb w' vb') : FreeOf g va vb' vc vy := ⟨hf.1, free_step hg hf.2.1 hs, hf.2.2.1, hf.2.2.2⟩
theorem Reg.pushB {w w' : World} {B : Nat} {t : Option Nat} {va vb vc vy vb' : Value} {pa pb pc : List Value} {n : Nat} {LA LB : List Bytes} {Y : Bytes} {x : Value} {M : Bytes} (hx : LineV w t va vb vc vy x M) (h : Reg w B t va vb vc vy pa pb pc n LA LB Y) (hs : Step w vb w' vb') (ho : w'.ownsRow B 22 1 vb' (pb ++ [x]).length (pb ++ [x])) (ht : ∀ k, t = some k → k < w.heap.size) :
    Reg w' B t va vb' vc vy pa (pb ++ [x]) pc n LA (LB ++ [M]) Y :=
  ⟨h.oa.kept hs.1 (h.pab), ho, h.oc.kept hs.1 (h.pbc.symm), World.ownsRow.kept h.oy hs.1 (h.pby.symm), apart_step (own_lt h.oa) h.pab hs, h.pac, h.pay, (apart_step (own_lt h.oc) h.pbc.symm hs).symm, (apart_step (own_lt h.oy) h.pby.symm hs).symm, h.pcy, h.la.map fun _ _ k => k.stepB hs, (h.lb.push hx).map fun _ _ k => k.stepB hs, h.ta, apartT_step ht h.tb hs, h.tc, h.ty⟩
theorem LineV.stepC {w w' : World} {t : Option Nat} {va vb vc vy vc' x : Value} {M : Bytes} (h : LineV w t va vb vc vy x M) (hs : Step w vc w' vc') : LineV w' t va vb vc' vy x M := by
  obtain ⟨g, c, rfl, hg, hl, hf, ht, hm⟩ := h
  exact ⟨g, c, rfl, Nat.lt_of_lt_of_le hg hs.1.size, hl.step hs hf.2.2.1, ⟨hf.1, hf.2.1, free_step hg hf.2.2.1 hs, hf.2.2.2⟩, ht, hm⟩
theorem FreeOf.stepC {w w' : World} {va vb vc vy vc' : Value} {g : Nat} (hf : FreeOf g va vb vc vy) (hg : g < w.heap.size) (hs : Step w vc w' vc') : FreeOf g va vb vc' vy := ⟨hf.1, hf.2.1, free_step hg hf.2.2.1 hs, hf.2.2.2⟩
theorem Reg.pushC {w w' : World} {B : Nat} {t : Option Nat} {va vb vc vy vc' : Value} {pa pb pc : List Value} {n : Nat} {LA LB : List Bytes} {Y : Bytes} {n' : Nat} {pc' : List Value} (h : Reg w B t va vb vc vy pa pb pc n LA LB Y) (hs : Step w vc w' vc') (ho : w'.ownsRow B 31 4 vc' n' pc') (ht : ∀ k, t = some k → k < w.heap.size) :
    Reg w' B t va vb vc' vy pa pb pc' n' LA LB Y :=
  ⟨h.oa.kept hs.1 (h.pac), h.ob.kept hs.1 (h.pbc), ho, World.ownsRow.kept h.oy hs.1 (h.pcy.symm), h.pab, apart_step (own_lt h.oa) h.pac hs, h.pay, apart_step (own_lt h.ob) h.pbc hs, h.pby, (apart_step (own_lt h.oy) h.pcy.symm hs).symm, h.la.map fun _ _ k => k.stepC hs, h.lb.map fun _ _ k => k.stepC hs, h.ta, h.tb, apartT_step ht h.tc hs, h.ty⟩
theorem LineV.stepY {w w' : World} {t : Option Nat} {va vb vc vy vy' x : Value} {M : Bytes} (h : LineV w t va vb vc vy x M) (hs : Step w vy w' vy') : LineV w' t va vb vc vy' x M := by
  obtain ⟨g, c, rfl, hg, hl, hf, ht, hm⟩ := h
  exact ⟨g, c, rfl, Nat.lt_of_lt_of_le hg hs.1.size, hl.step hs hf.2.2.2, ⟨hf.1, hf.2.1, hf.2.2.1, free_step hg hf.2.2.2 hs⟩, ht, hm⟩
theorem FreeOf.stepY {w w' : World} {va vb vc vy vy' : Value} {g : Nat} (hf : FreeOf g va vb vc vy) (hg : g < w.heap.size) (hs : Step w vy w' vy') : FreeOf g va vb vc vy' := ⟨hf.1, hf.2.1, hf.2.2.1, free_step hg hf.2.2.2 hs⟩
theorem Reg.pushY {w w' : World} {B : Nat} {t : Option Nat} {va vb vc vy vy' : Value} {pa pb pc : List Value} {n : Nat} {LA LB : List Bytes} {Y : Bytes} {Y' : Bytes} (h : Reg w B t va vb vc vy pa pb pc n LA LB Y) (hs : Step w vy w' vy') (ho : Own w' B vy' Y') (ht : ∀ k, t = some k → k < w.heap.size) :
    Reg w' B t va vb vc vy' pa pb pc n LA LB Y' :=
  ⟨h.oa.kept hs.1 (h.pay), h.ob.kept hs.1 (h.pby), h.oc.kept hs.1 (h.pcy), ho, h.pab, h.pac, apart_step (own_lt h.oa) h.pay hs, h.pbc, apart_step (own_lt h.ob) h.pby hs, apart_step (own_lt h.oc) h.pcy hs, h.la.map fun _ _ k => k.stepY hs, h.lb.map fun _ _ k => k.stepY hs, h.ta, h.tb, h.tc, apartT_step ht h.ty hs⟩
end Go.Proofs.YbulkbtkaDoor
