/-
  slices.Equal over places; setRange.
-/
import Derived.Test.YbulkbtdoUD
namespace Go.Proofs.Ybulkbtdo.U
open Go.RowKit
set_option maxRecDepth 100000
/-- steps of the walk: an append, a copy, whose run is known -/
theorem wpList_app {w : World} {ops : Array Oper} {rest : List Oper} {o : Oper} {a : Act} {Q : Exit → Act → World → Prop} (hgd : o.guard = none) (s x : Operand) (t tx : TypeId)
    (ho : o.op = .call { callee := .builtin .append, args := #[s, x], argTypes := #[t, tx] }) {v xv v' : Value} {w' : World} (hr : (Builtin.append_ #[t, tx] o.type #[v, xv]).run Yba.prog w = .ok v' w')
    (hs : a.eval s = v) (hx : a.eval x = xv) (h : wpList Yba.prog ops Q rest (a.put o.dst v') w') : wpList Yba.prog ops Q (o :: rest) a w :=
  wpList_plain hgd fun _ hK => by
    unfold Oper.wp execOp
    simp only [ho, resolve, invoke, builtin, Sem.run_bind, Sem.run_pure, Result.andThen_ok, List.map_toArray, List.map_cons, List.map_nil, hs, hx, hr]
    exact hK _ _ h
theorem wpList_cp {w : World} {ops : Array Oper} {rest : List Oper} {o : Oper} {a : Act} {Q : Exit → Act → World → Prop} (hgd : o.guard = none) (s x : Operand) (t tx : TypeId)
    (ho : o.op = .call { callee := .builtin .copy, args := #[s, x], argTypes := #[t, tx] }) {v xv v' : Value} {w' : World} (hr : (Builtin.copy_ #[t, tx] o.type #[v, xv]).run Yba.prog w = .ok v' w')
    (hs : a.eval s = v) (hx : a.eval x = xv) (h : wpList Yba.prog ops Q rest (a.put o.dst v') w') : wpList Yba.prog ops Q (o :: rest) a w :=
  wpList_plain hgd fun _ hK => by
    unfold Oper.wp execOp
    simp only [ho, resolve, invoke, builtin, Sem.run_bind, Sem.run_pure, Result.andThen_ok, List.map_toArray, List.map_cons, List.map_nil, hs, hx, hr]
    exact hK _ _ h
/-- a call that answers a bool of which P is known -/
def RetB (e : Ending) (P : Bool → Prop) : Prop := ∃ b, e = .returned (.bool b) ∧ P b
theorem RetB.mk {P : Bool → Prop} (b : Bool) (h : P b) : RetB (.returned (.bool b)) P := ⟨b, rfl, h⟩
set_option maxHeartbeats 1000000 in
theorem equal32_any (v u : Value) (A B : List Nat) (w : World) (h : PlV w v A) (h' : PlV w u B) (hl : A.length ≤ 1000) (hl' : B.length ≤ 1000) :
    Calls Yba.prog 28 #[v, u] w fun e w' => RetB e (fun _ => True) ∧ New w w' := by
  obtain ⟨a, c, rfl, hc, hx⟩ := h
  obtain ⟨a', c', rfl, hc', hx'⟩ := h'
  have HX : Hid (∀ (i q : Nat), A[i]? = some q → ∃ g o, a = some ⟨g, o, none⟩ ∧ w.cell? ⟨g, o + i, none⟩ = some (.int .i32 (q : Int))) := hx
  have HY : Hid (∀ (i q : Nat), B[i]? = some q → ∃ g o, a' = some ⟨g, o, none⟩ ∧ w.cell? ⟨g, o + i, none⟩ = some (.int .i32 (q : Int))) := hx'
  clear hx hx'
  generalize hn : A.length = n at *
  generalize hn' : B.length = n' at *
  by_cases hnn : n = n'
  · subst hnn
    go_enter Yba.func28, Yba.ntmps28
    go_wp2_with fail
    go_loopw [13] (fun s13 wr => ∃ i : Nat, s13 = .int .i64 (i : Int) ∧ i ≤ n ∧ New w wr) (fun s13 _ => n - (intOf s13).toNat)
    case atStart => exact ⟨0, rfl, Nat.zero_le _, Chg.refl _ _⟩
    case round =>
      obtain ⟨i, rfl, hin, hb⟩ := hrel
      have HB : Hid (New w wr) := hb
      clear hb
      by_cases hlt : i < n
      · obtain ⟨p, hp⟩ : ∃ p, A[i]? = some p := ⟨_, List.getElem?_eq_getElem (by omega)⟩
        obtain ⟨q, hq⟩ : ∃ q, B[i]? = some q := ⟨_, List.getElem?_eq_getElem (by omega)⟩
        obtain ⟨g, o, ha, hc1⟩ := HX.out _ p hp
        obtain ⟨g', o', ha', hc2⟩ := HY.out _ q hq
        have hc1' := HB.out.cell hc1 (fun h => h)
        have hc2' := HB.out.cell hc2 (fun h => h)
        subst ha
        subst ha'
        clear hp hq hc1 hc2
        have HB2 : Hid (New w wr.drew) := HB.out.drew
        by_cases hpq : p = q
        · subst hpq
          have t1 : ((p : Int) != (p : Int)) = false := by simp
          go_wp2_with fail
          go_region
          go_wp2_with fail
          go_roundw
          case rel => exact ⟨i + 1, by go_num, by omega, HB2.out⟩
          case measure => simp [intOf]; omega
        · have t1 : ((p : Int) != (q : Int)) = true := by simp; omega
          go_wp2_with fail
          go_region
          go_wp2_with fail
          go_ret
          exact ⟨⟨_, rfl, trivial⟩, HB2.out⟩
      · go_wp2_with fail
        go_ret
        exact ⟨⟨_, rfl, trivial⟩, HB.out⟩
  · have t1 : ((n : Int) != (n' : Int)) = true := by simp; omega
    go_enter Yba.func28, Yba.ntmps28
    go_wp2_with fail
    go_ret
    exact ⟨⟨_, rfl, trivial⟩, Chg.refl _ _⟩
theorem Chg.setRow {D : Nat → Prop} {w w1 : World} (h : Chg D w w1) {g : Nat} (hg : g < w.heap.size → D g) (cs : Array Value) : Chg D w (w1.setRow g cs) :=
  h.trans (E := fun k => k = g) ⟨rfl, rfl, rfl, by simp [World.setRow], fun k _ hk => setRow_other w1 g k cs hk⟩ (fun b hb e => by subst e; exact hg hb)
theorem copy45 {w : World} {GW PB K o dLen dCap m sCap : Nat} {f pl : Nat → Value} {pe pk : Nat} (hf : RowIs w GW 21 K f) (hp : RowIs w PB pe pk pl) (hm : m ≤ pk) (hd : m ≤ dLen) (ho : o + dLen ≤ K) (h1 : ∀ j, j < m → (pl j).oneCell' = true) (ty : TypeId) :
    ∃ w', (Builtin.copy_ #[45, 45] ty #[.slice (some ⟨GW, o, none⟩) dLen dCap, .slice (some ⟨PB, 0, none⟩) m sCap]).run Yba.prog w = .ok (goInt m) w' ∧ RowIs w' GW 21 K (fun k => if o ≤ k ∧ k < o + m then pl (k - o) else f k) ∧ Chg (fun k => k = GW) w w' := by
  obtain ⟨cur, hg, hs, hc⟩ := hf
  have hcl : ((List.range m).map pl).length = m := by simp
  have hr := run_copy_row (P := Yba.prog) w 45 45 ty 21 GW o dLen dCap ⟨PB, 0, none⟩ m sCap cur 21 ((List.range m).map pl) Yba.underlying45 (by kernel_rfl) hg (by rw [hcl]; exact (Nat.min_eq_left hd).symm)
    (fun j v hj => by
      have hjm : j < m := by simpa using (List.getElem?_eq_some_iff.1 hj).1
      rw [List.getElem?_map, List.getElem?_range hjm] at hj
      rw [add_at, Nat.zero_add, hp.cell (by omega)]
      simpa using hj) (by rw [hcl, hs]; omega)
    (fun v hv => by
      obtain ⟨j, hj, rfl⟩ := List.mem_map.1 hv
      exact h1 j (List.mem_range.1 hj))
  rw [hcl] at hr
  refine ⟨_, hr, ⟨_, setRow_heap w GW cur _ 21 _ hg, ?_, fun i hi => ?_⟩, Chg.setRow (D := fun k => k = GW) (Chg.refl _ w) (fun _ => rfl) _⟩
  · simp [hs]; omega
  · have hci := hc i hi
    rw [List.getElem?_toArray]
    show _ = some (if o ≤ i ∧ i < o + m then pl (i - o) else f i)
    by_cases e1 : i < o
    · rw [if_neg (by omega), List.append_assoc, List.getElem?_append_left (by simp [hs]; omega), List.getElem?_take_of_lt e1]
      simpa using hci
    · by_cases e2 : i < o + m
      · rw [if_pos (by omega), List.append_assoc, List.getElem?_append_right (by simp; omega), List.getElem?_append_left (by simp [hs]; omega)]
        have e : (cur.toList.take o).length = o := by simp [hs]; omega
        rw [e, List.getElem?_map, List.getElem?_range (by omega)]
        rfl
      · have e : (cur.toList.take o ++ (List.range m).map pl).length = o + m := by simp [hs]; omega
        rw [if_neg (by omega), List.getElem?_append_right (by rw [e]; omega), e, List.getElem?_drop, show o + m + (i - (o + m)) = i by omega]
        simpa using hci
def Cur.setLow (X : Cur) (k c m : Nat) (pl : Nat → Nat) : Cur := { X with lo := fun j => if j = k then c else X.lo j, lw := fun j => if k * 8 ≤ j ∧ j < k * 8 + m then pl (j - k * 8) else X.lw j }
theorem Tree.setLow {w w' : World} {G : Geo} {N : Nat → Am} {nv : Nat → Value} {al : Bool} {X : Cur} (h : Tree w G N nv al X) {k c m : Nat} {pl : Nat → Nat} (hk : k < G.size - 1) (hm : m ≤ 8) (hcm : (c = m ∧ ∀ j, j < m → pl j < G.n) ∨ (c = 9 ∧ m = 0))
    (hc : Chg (fun b => b = G.GO ∨ b = G.GW) w w') (ho : RowIs w' G.GO 5 (G.size - 1) (fun j => if j = k then .int .u8 (c : Int) else .int .u8 (X.lo j : Int))) (hw : RowIs w' G.GW 21 ((G.size - 1) * 8) (fun j => if k * 8 ≤ j ∧ j < k * 8 + m then .int .i32 (pl (j - k * 8) : Int) else .int .i32 (X.lw j : Int))) :
    Tree w' G N nv al (X.setLow k c m pl) := by
  obtain ⟨f, hf, r⟩ := h.tr
  have ht := h.ok.t
  have hd := h.ok.d
  have hO : ∀ {v : Value} {L : Am}, OwnG w G v L → ∀ b, v.ownBlock = some b → ¬ (b = G.GO ∨ b = G.GW) := fun ho b hb e => by
    have h1 := (ho.ge b hb).1
    rcases e with e | e
    · exact ht.2.2.2.2 (by rw [← e]; exact h1)
    · exact ht.2.2.2.1 (by rw [← e]; exact h1)
  refine ⟨h.ok, fun b hb => h.sz b (Nat.le_trans hc.size hb), ⟨f, hf.chg hc (by omega), r⟩, h.nr.chg hc (by omega), fun i hi => (h.na i hi).chg hc (fun b hb e => h.nb i hi b hb (e.elim (fun e => .inr (.inr (.inr (.inl e)))) (fun e => .inr (.inr (.inl e))))), h.nb, h.no, h.lr.chg hc (by omega), fun j hj => (h.la j hj).chg hc (hO (h.la j hj)), h.lok, h.rr.chg hc (hO h.rr), h.ss, ?_, ?_, fun j hj => ?_, fun j q hj h8 hq => ?_, fun k hk => by
    obtain ⟨a, n, c, h1⟩ := h.tx k hk
    exact ⟨a, n, c, hc.cell h1 (by omega)⟩⟩
  · refine ho.ext fun j hj => ?_
    show (if j = k then _ else _) = Value.int .u8 ((if j = k then c else X.lo j : Nat) : Int)
    split <;> rfl
  · refine hw.ext fun j hj => ?_
    show (if k * 8 ≤ j ∧ j < k * 8 + m then _ else _) = Value.int .i32 ((if k * 8 ≤ j ∧ j < k * 8 + m then pl (j - k * 8) else X.lw j : Nat) : Int)
    split <;> rfl
  · show (if j = k then c else X.lo j) ≤ 9
    have := h.o9 j hj
    split <;> omega
  · have h8' : (if j = k then c else X.lo j) ≤ 8 := h8
    have hq' : q < (if j = k then c else X.lo j) := hq
    show (if k * 8 ≤ j * 8 + q ∧ j * 8 + q < k * 8 + m then pl (j * 8 + q - k * 8) else X.lw (j * 8 + q)) < G.n
    by_cases e : j = k
    · subst e
      rw [if_pos rfl] at h8' hq'
      rcases hcm with ⟨rfl, hp⟩ | ⟨rfl, _⟩
      · rw [if_pos (by omega), show j * 8 + q - j * 8 = q by omega]
        exact hp q hq'
      · omega
    · rw [if_neg e] at h8' hq'
      rw [if_neg (by omega)]
      exact h.w8 j q hj h8' hq'
set_option maxHeartbeats 2000000 in
theorem setRange_any (G : Geo) (N : Nat → Am) (nv : Nat → Value) (al : Bool) (X : Cur) (r m c PB pc : Nat) (pl : Nat → Nat) (w : World) (h : Tree w G N nv al X) (hP : RowIs w PB 85 16 (fun j => .int .i32 (pl j : Int))) (hm : m ≤ 8) (hcm : (c = m ∧ ∀ j, j < m → pl j < G.n) ∨ (c = 9 ∧ m = 0)) (hr1 : 1 ≤ r) (hr2 : r < G.size) (hpc : m ≤ pc) (hPB : PB ≠ G.GO ∧ PB ≠ G.GW) :
    Calls Yba.prog 24 #[.slice (some ⟨G.GW, 0, none⟩) ((G.size - 1) * 8) ((G.size - 1) * 8), .slice (some ⟨G.GO, 0, none⟩) (G.size - 1) (G.size - 1), .int .i64 8, .int .i64 (r : Int), .slice (some ⟨PB, 0, none⟩) m pc, .int .u8 (c : Int)] w
      fun e w' => RetB e (fun ch => ch = false → X.lo (r - 1) = c) ∧ Tree w' G N nv al (X.setLow (r - 1) c m pl) ∧ Chg (Dt G) w w' := by
  have HT : Hid (Tree w G N nv al X) := h
  have hs256 := h.ok.s256
  have hd := h.ok.d
  have ho := h.or.cell (i := r - 1) (by omega)
  have hf := h.or.frozen (r - 1)
  have hA : PlV w (.slice (some ⟨G.GW, (r - 1) * 8, none⟩) m ((G.size - 1) * 8 - (r - 1) * 8)) ((List.range m).map fun j => X.lw ((r - 1) * 8 + j)) := by
    refine ⟨some ⟨G.GW, (r - 1) * 8, none⟩, (G.size - 1) * 8 - (r - 1) * 8, by simp, by simp; omega, fun i q hq => ⟨_, _, rfl, ?_⟩⟩
    have hi : i < m := by simpa using (List.getElem?_eq_some_iff.1 hq).1
    have e : q = X.lw ((r - 1) * 8 + i) := by
      rw [List.getElem?_map, List.getElem?_range hi] at hq
      simpa using hq.symm
    subst e
    exact h.wr.cell (by omega)
  have hB : PlV w (.slice (some ⟨PB, 0, none⟩) m pc) ((List.range m).map pl) := by
    refine ⟨some ⟨PB, 0, none⟩, pc, by simp, by simpa using hpc, fun i q hq => ⟨_, _, rfl, ?_⟩⟩
    have hi : i < m := by simpa using (List.getElem?_eq_some_iff.1 hq).1
    have e : q = pl i := by
      rw [List.getElem?_map, List.getElem?_range hi] at hq
      simpa using hq.symm
    subst e
    rw [Nat.zero_add]
    exact hP.cell (by omega)
  have HE : Hid (Calls Yba.prog 28 #[.slice (some ⟨G.GW, (r - 1) * 8, none⟩) m ((G.size - 1) * 8 - (r - 1) * 8), .slice (some ⟨PB, 0, none⟩) m pc] w fun e w' => RetB e (fun _ => True) ∧ New w w') := equal32_any _ _ _ _ w hA hB (by simp; omega) (by simp; omega)
  have HEND : Hid (∀ w1, New w w1 → ∃ w', (Builtin.copy_ #[45, 45] 3 #[.slice (some ⟨G.GW, (r - 1) * 8, none⟩) 8 ((G.size - 1) * 8 - (r - 1) * 8), .slice (some ⟨PB, 0, none⟩) m pc]).run Yba.prog (w1.setCell ⟨G.GO, r - 1, none⟩ (.int .u8 (c : Int))) = .ok (goInt m) w' ∧ Tree w' G N nv al (X.setLow (r - 1) c m pl) ∧ Chg (Dt G) w w') := fun w1 hn => by
    have h1 := h.new hn
    have r1 := h1.or.set (i := r - 1) (by omega) (.int .u8 (c : Int))
    have c1 : Chg (fun b => b = G.GO) w1 (w1.setCell ⟨G.GO, r - 1, none⟩ (.int .u8 (c : Int))) := Chg.set (D := fun b => b = G.GO) (Chg.refl _ w1) (fun _ => rfl) _
    have r2 := h1.wr.chg c1 (by omega)
    have r3 := (hP.chg hn (fun h => h)).chg c1 (by omega)
    obtain ⟨w', hr, r4, c2⟩ := copy45 (dLen := 8) (dCap := (G.size - 1) * 8 - (r - 1) * 8) (sCap := pc) (o := (r - 1) * 8) (m := m) r2 r3 (by omega) hm (by omega) (fun j _ => rfl) 3
    refine ⟨w', hr, h1.setLow (by omega) hm hcm ?_ (r1.chg c2 (by omega)) r4, ?_⟩
    · exact (c1.mono (E := fun b => b = G.GO ∨ b = G.GW) (fun b _ e => .inl e)).trans c2 (fun b _ e => .inr e)
    · refine New.then hn ((c1.mono (E := Dt G) (fun b _ e => ?_)).trans c2 (fun b _ e => ?_))
      · exact .inr (.inr (.inr (.inl e)))
      · exact .inr (.inr (.inl e))
  have e1 : (r : Int) - 1 = ((r - 1 : Nat) : Int) := by omega
  have hsz : r - 1 < G.size - 1 := by omega
  have er : (r : Int) * 8 = ((r - 1 : Nat) : Int) * 8 + 8 := by omega
  have hc9 : c ≤ 9 := by omega
  have HF : Hid (∀ w1, New w w1 → w1.cell? ⟨G.GO, r - 1, none⟩ = some (.int .u8 (X.lo (r - 1) : Int)) ∧ w1.frozen? ⟨G.GO, r - 1, none⟩ = false) := fun w1 hn => ⟨(h.new hn).or.cell (by omega), (h.new hn).or.frozen (r - 1)⟩
  clear h hA hB hP
  generalize X.lo (r - 1) = l1 at *
  by_cases hcl : c = l1
  · subst hcl
    go_enter Yba.func24, Yba.ntmps24
    go_wp2_with fail
    refine HE.out.mono ?_
    rintro e w1 ⟨⟨b, rfl, _⟩, hn⟩
    obtain ⟨ho1, hf1⟩ := HF.out w1 hn
    obtain ⟨w2, hr2, ht2, hc2⟩ := HEND.out w1 hn
    have HT2 : Hid (Tree w2 G N nv al (X.setLow (r - 1) c m pl)) := ht2
    have HC2 : Hid (Chg (Dt G) w w2) := hc2
    clear ht2 hc2 hn ho hf
    go_wp2_with (first | (at_builtin; refine wpList_cp rfl _ _ _ _ rfl hr2 rfl rfl ?_) | fail)
    go_ret
    exact ⟨⟨_, rfl, fun _ => by simp⟩, HT2.out, HC2.out⟩
  · have t1 : ((c : Int) != (l1 : Int)) = true := by simp; omega
    obtain ⟨w2, hr2, ht2, hc2⟩ := HEND.out w (Chg.refl _ w)
    have HT2 : Hid (Tree w2 G N nv al (X.setLow (r - 1) c m pl)) := ht2
    have HC2 : Hid (Chg (Dt G) w w2) := hc2
    clear ht2 hc2
    go_enter Yba.func24, Yba.ntmps24
    go_wp2_with (first | (at_builtin; refine wpList_cp rfl _ _ _ _ rfl hr2 rfl rfl ?_) | fail)
    go_ret
    exact ⟨⟨_, rfl, fun h => by cases h⟩, HT2.out, HC2.out⟩
end Go.Proofs.Ybulkbtdo.U
