/-
  THE WALK OF 'workload.LawS3485BForm' WHERE A MAXIMUM IS GIVEN.
-/
import Derived.Test.YbulkbtdoFormA
namespace Go.Proofs.Ybulkbtdo
open Go.RowKit Go.Maps Go.WideMaps

set_option maxHeartbeats 2000000 in
set_option maxRecDepth 100000 in
theorem form_max0 (name pol share : ByteArray) (rc : Bool) (to : Int) (a6 : Option Addr) (l6 c6 : Nat) (ss : List ByteArray) (a7 : Option Addr) (l7 c7 : Nat) (zs : List Int) (w : World) (hl : l6 ≤ 1024)
    (hk : KeysAt w a6 l6 ss) (hz : ValsAt w a7 l7 zs) (e1 : share.toList = []) :
    Calls Yba.prog 3 #[.string name, .string pol, .string share, .bool rc, .int .i64 to, .bool true, .slice a6 l6 c6, .slice a7 l7 c7] w fun e w' => e = .returned (.bool true) ∧ Below w.heap.size w w' := by
  have h1 := neqMap25
  have h2 := ta38
  have h3 := eqlMap25
  have hmm := @run_makeMap Yba.prog
  cases rc
  all_goals
    go_enter Yba.func3, Yba.ntmps3
    go_wp2
    go_loopw [37] (fun i wr => ∃ k : Nat, k ≤ l6 ∧ i = .int .i64 k ∧ Below w.heap.size w wr ∧ ∃ D : DataW Unit, Owns wr w.heap.size k D ∧ ∀ j, j < k → Maps.has D (.string (ss.getD j ByteArray.empty).data.toList) = true)
      (fun i _ => l6 - (intOf i).toNat)
    case atStart => exact ⟨0, Nat.zero_le _, rfl, (Below.refl _ _).alloc (Nat.le_refl _) _, _, World.ownsMap_made _ _ _ _, fun j hj => absurd hj (by omega)⟩
    case round =>
      obtain ⟨k, hk6, rfl, hbel, D, hown, hall⟩ := hrel
      by_cases hlt : k < l6
      · obtain ⟨b6, o6, ha6, hcell6, hsz6⟩ := hk k hlt
        have hidx6 := fun wx => idx22 (cap := c6) ha6 hlt wx
        obtain ⟨s, hs⟩ : ∃ s, s = ss.getD k ByteArray.empty := ⟨_, rfl⟩
        have hc6 : wr.cell? ⟨b6, o6 + k, none⟩ = some (.string s) := by rw [hs]; exact cell_later hbel hcell6
        have hkey : keyOf Yba.prog 9 (.string s) = some (.string s.data.toList) := keyOf_string_mk Yba.underlying9 (by rw [hs]; exact hsz6)
        have hallN : ∀ d : DataW Unit, ∀ j, j < k + 1 → Maps.has (D.put (.string s.data.toList) d) (.string (ss.getD j ByteArray.empty).data.toList) = true := by
          intro d j hj
          by_cases he : ss.getD j ByteArray.empty = s
          · rw [he]; exact Maps.has_put_same (World.ownsMap.isMap hown) (by trivial) _
          · rw [Maps.has_put_other (by intro h; apply he; injection h with h; exact ba_ext h)]
            exact hall j (by
              have : j ≠ k := fun e => he (by rw [e, hs])
              omega)
        clear hs hall ha6 hcell6 hsz6
        by_cases h7 : k < l7
        · obtain ⟨b7, o7, ha7, hcell7, hwf7⟩ := hz k h7
          have hidx7 := fun wx => idx23 (cap := c7) ha7 h7 wx
          have hc7 : wr.cell? ⟨b7, o7 + k, none⟩ = some (.int .i64 (zs.getD k 0)) := cell_later hbel hcell7
          obtain ⟨z, hzz⟩ : ∃ z, z = zs.getD k 0 := ⟨_, rfl⟩
          have hwf : (Lit.int .i64 z).wf = true := by rw [hzz]; exact hwf7
          rw [← hzz] at hc7
          clear hzz ha7 hcell7 hwf7
          go_wp2_with (first
            | (at_mapUpdate; refine wpList_mapUpdate_own _ rfl _ _ _ 25 rfl 9 2 law9 Yba.underlying25 _ w.heap.size k _ rfl hown (by unfold maxLen; omega) _ _ _ rfl rfl hkey _ [] (plainElem_int Yba.underlying2 hwf) ?_)
            | go_in)
          intro w1 hown1 hgrow1
          have R2 := hbel.grown hgrow1 hbel.size (fun j hj => by cases hj; exact Nat.le_refl _)
          clear hgrow1 hown hc6 hc7 hidx6 hidx7
          go_wp2
          go_roundw
          case rel => exact ⟨k + 1, by omega, by go_num, R2, _, hown1, hallN _⟩
          case measure => simp [intOf]; omega
        · go_wp2_with (first
            | (at_mapUpdate; refine wpList_mapUpdate_own _ rfl _ _ _ 25 rfl 9 2 law9 Yba.underlying25 _ w.heap.size k _ rfl hown (by unfold maxLen; omega) _ _ _ rfl rfl hkey _ [] (plainElem_int Yba.underlying2 (by decide)) ?_)
            | go_in)
          intro w1 hown1 hgrow1
          have R2 := hbel.grown hgrow1 hbel.size (fun j hj => by cases hj; exact Nat.le_refl _)
          clear hgrow1 hown hc6 hidx6
          go_wp2
          go_roundw
          case rel => exact ⟨k + 1, by omega, by go_num, R2, _, hown1, hallN _⟩
          case measure => simp [intOf]; omega
      · have hk6 : k = l6 := by omega
        subst hk6
        have hlen : ∀ o1 o2 o3 o4 ty, (Builtin.len_ #[25] ty #[.map (some w.heap.size)]).run Yba.prog ((((wr.alloc o1).alloc o2).alloc o3).alloc o4) = .ok (.int .i64 (Maps.size D)) ((((wr.alloc o1).alloc o2).alloc o3).alloc o4) := fun o1 o2 o3 o4 ty => ((((hown.alloc o1).alloc o2).alloc o3).alloc o4).run_len ty
        have fin : ∀ (o1 o2 o3 o4 : Obj), Below w.heap.size w ((((wr.alloc o1).alloc o2).alloc o3).alloc o4) := fun o1 o2 o3 o4 =>
          (((hbel.alloc (by exact hbel.size) _).alloc (by have := hbel.size; simp; omega) _).alloc (by have := hbel.size; simp; omega) _).alloc (by have := hbel.size; simp; omega) _
        have HO : Hid (Owns wr w.heap.size k D) := hown
        have HA : Hid (∀ j, j < k → Maps.has D (.string (ss.getD j ByteArray.empty).data.toList) = true) := hall
        clear hown hall
        go_wp2
        go_loop [154] (fun i => ∃ j : Nat, j ≤ k ∧ i = .int .i64 j) (fun i => k - (intOf i).toNat)
        case atStart => exact ⟨0, Nat.zero_le _, rfl⟩
        case round =>
          obtain ⟨j, hj, rfl⟩ := hrel
          clear hlen
          by_cases hlj : j < k
          · obtain ⟨b6, o6, ha6, hcell6, hsz6⟩ := hk j hlj
            have hidx6 := fun wx => idx22 (cap := c6) ha6 hlj wx
            obtain ⟨s, hs⟩ : ∃ s, s = ss.getD j ByteArray.empty := ⟨_, rfl⟩
            have hc6 : ∀ o1 o2 o3 o4, ((((wr.alloc o1).alloc o2).alloc o3).alloc o4).cell? ⟨b6, o6 + j, none⟩ = some (.string s) := fun o1 o2 o3 o4 => by
              rw [hs]; exact cell_later (fin o1 o2 o3 o4) hcell6
            have hkey : keyOf Yba.prog 9 (.string s) = some (.string s.data.toList) := keyOf_string_mk Yba.underlying9 (by rw [hs]; exact hsz6)
            have hhas : Maps.has D (.string s.data.toList) = true := by rw [hs]; exact HA.out j hlj
            obtain ⟨c, hc⟩ := HO.out.look hkey
            have hl1 : ∀ o1 o2 o3 o4, (Instr.lookup 25 (.map (some w.heap.size)) (.string s) true).run Yba.prog ((((wr.alloc o1).alloc o2).alloc o3).alloc o4) = .ok (.tuple #[.int .i64 c, .bool true]) ((((wr.alloc o1).alloc o2).alloc o3).alloc o4) :=
              fun o1 o2 o3 o4 => ((((HO.out.alloc o1).alloc o2).alloc o3).alloc o4).run_look_ok hkey hc hhas
            have hl2 : ∀ o1 o2 o3 o4, (Instr.lookup 25 (.map (some w.heap.size)) (.string s) false).run Yba.prog ((((wr.alloc o1).alloc o2).alloc o3).alloc o4) = .ok (.int .i64 c) ((((wr.alloc o1).alloc o2).alloc o3).alloc o4) :=
              fun o1 o2 o3 o4 => ((((HO.out.alloc o1).alloc o2).alloc o3).alloc o4).run_look hkey hc
            clear hs hkey hhas hc ha6 hcell6 hsz6
            go_wp2
            go_round
            case rel => exact ⟨j + 1, by omega, by go_num⟩
            case measure => simp [intOf]; omega
          · go_wp2
            go_ret
            exact ⟨rfl, fin _ _ _ _⟩

set_option maxHeartbeats 2000000 in
set_option maxRecDepth 100000 in
theorem form_max1 (name pol share : ByteArray) (rc : Bool) (to : Int) (a6 : Option Addr) (l6 c6 : Nat) (ss : List ByteArray) (a7 : Option Addr) (l7 c7 : Nat) (zs : List Int) (w : World) (hl : l6 ≤ 1024)
    (hk : KeysAt w a6 l6 ss) (hz : ValsAt w a7 l7 zs) (e3 : (share.toList == [99, 112, 117]) = true) (e4 : share.toList.isEmpty = false) :
    Calls Yba.prog 3 #[.string name, .string pol, .string share, .bool rc, .int .i64 to, .bool true, .slice a6 l6 c6, .slice a7 l7 c7] w fun e w' => e = .returned (.bool true) ∧ Below w.heap.size w w' := by
  have h1 := neqMap25
  have h2 := ta38
  have h3 := eqlMap25
  have hmm := @run_makeMap Yba.prog
  cases rc
  all_goals
    go_enter Yba.func3, Yba.ntmps3
    go_wp2
    go_loopw [37] (fun i wr => ∃ k : Nat, k ≤ l6 ∧ i = .int .i64 k ∧ Below w.heap.size w wr ∧ ∃ D : DataW Unit, Owns wr w.heap.size k D ∧ ∀ j, j < k → Maps.has D (.string (ss.getD j ByteArray.empty).data.toList) = true)
      (fun i _ => l6 - (intOf i).toNat)
    case atStart => exact ⟨0, Nat.zero_le _, rfl, (Below.refl _ _).alloc (Nat.le_refl _) _, _, World.ownsMap_made _ _ _ _, fun j hj => absurd hj (by omega)⟩
    case round =>
      obtain ⟨k, hk6, rfl, hbel, D, hown, hall⟩ := hrel
      by_cases hlt : k < l6
      · obtain ⟨b6, o6, ha6, hcell6, hsz6⟩ := hk k hlt
        have hidx6 := fun wx => idx22 (cap := c6) ha6 hlt wx
        obtain ⟨s, hs⟩ : ∃ s, s = ss.getD k ByteArray.empty := ⟨_, rfl⟩
        have hc6 : wr.cell? ⟨b6, o6 + k, none⟩ = some (.string s) := by rw [hs]; exact cell_later hbel hcell6
        have hkey : keyOf Yba.prog 9 (.string s) = some (.string s.data.toList) := keyOf_string_mk Yba.underlying9 (by rw [hs]; exact hsz6)
        have hallN : ∀ d : DataW Unit, ∀ j, j < k + 1 → Maps.has (D.put (.string s.data.toList) d) (.string (ss.getD j ByteArray.empty).data.toList) = true := by
          intro d j hj
          by_cases he : ss.getD j ByteArray.empty = s
          · rw [he]; exact Maps.has_put_same (World.ownsMap.isMap hown) (by trivial) _
          · rw [Maps.has_put_other (by intro h; apply he; injection h with h; exact ba_ext h)]
            exact hall j (by
              have : j ≠ k := fun e => he (by rw [e, hs])
              omega)
        clear hs hall ha6 hcell6 hsz6
        by_cases h7 : k < l7
        · obtain ⟨b7, o7, ha7, hcell7, hwf7⟩ := hz k h7
          have hidx7 := fun wx => idx23 (cap := c7) ha7 h7 wx
          have hc7 : wr.cell? ⟨b7, o7 + k, none⟩ = some (.int .i64 (zs.getD k 0)) := cell_later hbel hcell7
          obtain ⟨z, hzz⟩ : ∃ z, z = zs.getD k 0 := ⟨_, rfl⟩
          have hwf : (Lit.int .i64 z).wf = true := by rw [hzz]; exact hwf7
          rw [← hzz] at hc7
          clear hzz ha7 hcell7 hwf7
          go_wp2_with (first
            | (at_mapUpdate; refine wpList_mapUpdate_own _ rfl _ _ _ 25 rfl 9 2 law9 Yba.underlying25 _ w.heap.size k _ rfl hown (by unfold maxLen; omega) _ _ _ rfl rfl hkey _ [] (plainElem_int Yba.underlying2 hwf) ?_)
            | go_in)
          intro w1 hown1 hgrow1
          have R2 := hbel.grown hgrow1 hbel.size (fun j hj => by cases hj; exact Nat.le_refl _)
          clear hgrow1 hown hc6 hc7 hidx6 hidx7
          go_wp2
          go_roundw
          case rel => exact ⟨k + 1, by omega, by go_num, R2, _, hown1, hallN _⟩
          case measure => simp [intOf]; omega
        · go_wp2_with (first
            | (at_mapUpdate; refine wpList_mapUpdate_own _ rfl _ _ _ 25 rfl 9 2 law9 Yba.underlying25 _ w.heap.size k _ rfl hown (by unfold maxLen; omega) _ _ _ rfl rfl hkey _ [] (plainElem_int Yba.underlying2 (by decide)) ?_)
            | go_in)
          intro w1 hown1 hgrow1
          have R2 := hbel.grown hgrow1 hbel.size (fun j hj => by cases hj; exact Nat.le_refl _)
          clear hgrow1 hown hc6 hidx6
          go_wp2
          go_roundw
          case rel => exact ⟨k + 1, by omega, by go_num, R2, _, hown1, hallN _⟩
          case measure => simp [intOf]; omega
      · have hk6 : k = l6 := by omega
        subst hk6
        have hlen : ∀ o1 o2 o3 o4 ty, (Builtin.len_ #[25] ty #[.map (some w.heap.size)]).run Yba.prog ((((wr.alloc o1).alloc o2).alloc o3).alloc o4) = .ok (.int .i64 (Maps.size D)) ((((wr.alloc o1).alloc o2).alloc o3).alloc o4) := fun o1 o2 o3 o4 ty => ((((hown.alloc o1).alloc o2).alloc o3).alloc o4).run_len ty
        have fin : ∀ (o1 o2 o3 o4 : Obj), Below w.heap.size w ((((wr.alloc o1).alloc o2).alloc o3).alloc o4) := fun o1 o2 o3 o4 =>
          (((hbel.alloc (by exact hbel.size) _).alloc (by have := hbel.size; simp; omega) _).alloc (by have := hbel.size; simp; omega) _).alloc (by have := hbel.size; simp; omega) _
        have HO : Hid (Owns wr w.heap.size k D) := hown
        have HA : Hid (∀ j, j < k → Maps.has D (.string (ss.getD j ByteArray.empty).data.toList) = true) := hall
        clear hown hall
        go_wp2
        go_loop [154] (fun i => ∃ j : Nat, j ≤ k ∧ i = .int .i64 j) (fun i => k - (intOf i).toNat)
        case atStart => exact ⟨0, Nat.zero_le _, rfl⟩
        case round =>
          obtain ⟨j, hj, rfl⟩ := hrel
          clear hlen
          by_cases hlj : j < k
          · obtain ⟨b6, o6, ha6, hcell6, hsz6⟩ := hk j hlj
            have hidx6 := fun wx => idx22 (cap := c6) ha6 hlj wx
            obtain ⟨s, hs⟩ : ∃ s, s = ss.getD j ByteArray.empty := ⟨_, rfl⟩
            have hc6 : ∀ o1 o2 o3 o4, ((((wr.alloc o1).alloc o2).alloc o3).alloc o4).cell? ⟨b6, o6 + j, none⟩ = some (.string s) := fun o1 o2 o3 o4 => by
              rw [hs]; exact cell_later (fin o1 o2 o3 o4) hcell6
            have hkey : keyOf Yba.prog 9 (.string s) = some (.string s.data.toList) := keyOf_string_mk Yba.underlying9 (by rw [hs]; exact hsz6)
            have hhas : Maps.has D (.string s.data.toList) = true := by rw [hs]; exact HA.out j hlj
            obtain ⟨c, hc⟩ := HO.out.look hkey
            have hl1 : ∀ o1 o2 o3 o4, (Instr.lookup 25 (.map (some w.heap.size)) (.string s) true).run Yba.prog ((((wr.alloc o1).alloc o2).alloc o3).alloc o4) = .ok (.tuple #[.int .i64 c, .bool true]) ((((wr.alloc o1).alloc o2).alloc o3).alloc o4) :=
              fun o1 o2 o3 o4 => ((((HO.out.alloc o1).alloc o2).alloc o3).alloc o4).run_look_ok hkey hc hhas
            have hl2 : ∀ o1 o2 o3 o4, (Instr.lookup 25 (.map (some w.heap.size)) (.string s) false).run Yba.prog ((((wr.alloc o1).alloc o2).alloc o3).alloc o4) = .ok (.int .i64 c) ((((wr.alloc o1).alloc o2).alloc o3).alloc o4) :=
              fun o1 o2 o3 o4 => ((((HO.out.alloc o1).alloc o2).alloc o3).alloc o4).run_look hkey hc
            clear hs hkey hhas hc ha6 hcell6 hsz6
            go_wp2
            go_round
            case rel => exact ⟨j + 1, by omega, by go_num⟩
            case measure => simp [intOf]; omega
          · go_wp2
            go_ret
            exact ⟨rfl, fin _ _ _ _⟩

set_option maxHeartbeats 2000000 in
set_option maxRecDepth 100000 in
theorem form_max2 (name pol share : ByteArray) (rc : Bool) (to : Int) (a6 : Option Addr) (l6 c6 : Nat) (ss : List ByteArray) (a7 : Option Addr) (l7 c7 : Nat) (zs : List Int) (w : World) (hl : l6 ≤ 1024)
    (hk : KeysAt w a6 l6 ss) (hz : ValsAt w a7 l7 zs) (e3 : (share.toList == [99, 112, 117]) = false) (e4 : share.toList.isEmpty = false) :
    Calls Yba.prog 3 #[.string name, .string pol, .string share, .bool rc, .int .i64 to, .bool true, .slice a6 l6 c6, .slice a7 l7 c7] w fun e w' => e = .returned (.bool true) ∧ Below w.heap.size w w' := by
  have h1 := neqMap25
  have h2 := ta38
  have h3 := eqlMap25
  have hmm := @run_makeMap Yba.prog
  cases rc
  all_goals
    go_enter Yba.func3, Yba.ntmps3
    go_wp2
    go_loopw [37] (fun i wr => ∃ k : Nat, k ≤ l6 ∧ i = .int .i64 k ∧ Below w.heap.size w wr ∧ ∃ D : DataW Unit, Owns wr w.heap.size k D ∧ ∀ j, j < k → Maps.has D (.string (ss.getD j ByteArray.empty).data.toList) = true)
      (fun i _ => l6 - (intOf i).toNat)
    case atStart => exact ⟨0, Nat.zero_le _, rfl, (Below.refl _ _).alloc (Nat.le_refl _) _, _, World.ownsMap_made _ _ _ _, fun j hj => absurd hj (by omega)⟩
    case round =>
      obtain ⟨k, hk6, rfl, hbel, D, hown, hall⟩ := hrel
      by_cases hlt : k < l6
      · obtain ⟨b6, o6, ha6, hcell6, hsz6⟩ := hk k hlt
        have hidx6 := fun wx => idx22 (cap := c6) ha6 hlt wx
        obtain ⟨s, hs⟩ : ∃ s, s = ss.getD k ByteArray.empty := ⟨_, rfl⟩
        have hc6 : wr.cell? ⟨b6, o6 + k, none⟩ = some (.string s) := by rw [hs]; exact cell_later hbel hcell6
        have hkey : keyOf Yba.prog 9 (.string s) = some (.string s.data.toList) := keyOf_string_mk Yba.underlying9 (by rw [hs]; exact hsz6)
        have hallN : ∀ d : DataW Unit, ∀ j, j < k + 1 → Maps.has (D.put (.string s.data.toList) d) (.string (ss.getD j ByteArray.empty).data.toList) = true := by
          intro d j hj
          by_cases he : ss.getD j ByteArray.empty = s
          · rw [he]; exact Maps.has_put_same (World.ownsMap.isMap hown) (by trivial) _
          · rw [Maps.has_put_other (by intro h; apply he; injection h with h; exact ba_ext h)]
            exact hall j (by
              have : j ≠ k := fun e => he (by rw [e, hs])
              omega)
        clear hs hall ha6 hcell6 hsz6
        by_cases h7 : k < l7
        · obtain ⟨b7, o7, ha7, hcell7, hwf7⟩ := hz k h7
          have hidx7 := fun wx => idx23 (cap := c7) ha7 h7 wx
          have hc7 : wr.cell? ⟨b7, o7 + k, none⟩ = some (.int .i64 (zs.getD k 0)) := cell_later hbel hcell7
          obtain ⟨z, hzz⟩ : ∃ z, z = zs.getD k 0 := ⟨_, rfl⟩
          have hwf : (Lit.int .i64 z).wf = true := by rw [hzz]; exact hwf7
          rw [← hzz] at hc7
          clear hzz ha7 hcell7 hwf7
          go_wp2_with (first
            | (at_mapUpdate; refine wpList_mapUpdate_own _ rfl _ _ _ 25 rfl 9 2 law9 Yba.underlying25 _ w.heap.size k _ rfl hown (by unfold maxLen; omega) _ _ _ rfl rfl hkey _ [] (plainElem_int Yba.underlying2 hwf) ?_)
            | go_in)
          intro w1 hown1 hgrow1
          have R2 := hbel.grown hgrow1 hbel.size (fun j hj => by cases hj; exact Nat.le_refl _)
          clear hgrow1 hown hc6 hc7 hidx6 hidx7
          go_wp2
          go_roundw
          case rel => exact ⟨k + 1, by omega, by go_num, R2, _, hown1, hallN _⟩
          case measure => simp [intOf]; omega
        · go_wp2_with (first
            | (at_mapUpdate; refine wpList_mapUpdate_own _ rfl _ _ _ 25 rfl 9 2 law9 Yba.underlying25 _ w.heap.size k _ rfl hown (by unfold maxLen; omega) _ _ _ rfl rfl hkey _ [] (plainElem_int Yba.underlying2 (by decide)) ?_)
            | go_in)
          intro w1 hown1 hgrow1
          have R2 := hbel.grown hgrow1 hbel.size (fun j hj => by cases hj; exact Nat.le_refl _)
          clear hgrow1 hown hc6 hidx6
          go_wp2
          go_roundw
          case rel => exact ⟨k + 1, by omega, by go_num, R2, _, hown1, hallN _⟩
          case measure => simp [intOf]; omega
      · have hk6 : k = l6 := by omega
        subst hk6
        have hlen : ∀ o1 o2 o3 o4 ty, (Builtin.len_ #[25] ty #[.map (some w.heap.size)]).run Yba.prog ((((wr.alloc o1).alloc o2).alloc o3).alloc o4) = .ok (.int .i64 (Maps.size D)) ((((wr.alloc o1).alloc o2).alloc o3).alloc o4) := fun o1 o2 o3 o4 ty => ((((hown.alloc o1).alloc o2).alloc o3).alloc o4).run_len ty
        have fin : ∀ (o1 o2 o3 o4 : Obj), Below w.heap.size w ((((wr.alloc o1).alloc o2).alloc o3).alloc o4) := fun o1 o2 o3 o4 =>
          (((hbel.alloc (by exact hbel.size) _).alloc (by have := hbel.size; simp; omega) _).alloc (by have := hbel.size; simp; omega) _).alloc (by have := hbel.size; simp; omega) _
        have HO : Hid (Owns wr w.heap.size k D) := hown
        have HA : Hid (∀ j, j < k → Maps.has D (.string (ss.getD j ByteArray.empty).data.toList) = true) := hall
        clear hown hall
        go_wp2
        go_loop [154] (fun i => ∃ j : Nat, j ≤ k ∧ i = .int .i64 j) (fun i => k - (intOf i).toNat)
        case atStart => exact ⟨0, Nat.zero_le _, rfl⟩
        case round =>
          obtain ⟨j, hj, rfl⟩ := hrel
          clear hlen
          by_cases hlj : j < k
          · obtain ⟨b6, o6, ha6, hcell6, hsz6⟩ := hk j hlj
            have hidx6 := fun wx => idx22 (cap := c6) ha6 hlj wx
            obtain ⟨s, hs⟩ : ∃ s, s = ss.getD j ByteArray.empty := ⟨_, rfl⟩
            have hc6 : ∀ o1 o2 o3 o4, ((((wr.alloc o1).alloc o2).alloc o3).alloc o4).cell? ⟨b6, o6 + j, none⟩ = some (.string s) := fun o1 o2 o3 o4 => by
              rw [hs]; exact cell_later (fin o1 o2 o3 o4) hcell6
            have hkey : keyOf Yba.prog 9 (.string s) = some (.string s.data.toList) := keyOf_string_mk Yba.underlying9 (by rw [hs]; exact hsz6)
            have hhas : Maps.has D (.string s.data.toList) = true := by rw [hs]; exact HA.out j hlj
            obtain ⟨c, hc⟩ := HO.out.look hkey
            have hl1 : ∀ o1 o2 o3 o4, (Instr.lookup 25 (.map (some w.heap.size)) (.string s) true).run Yba.prog ((((wr.alloc o1).alloc o2).alloc o3).alloc o4) = .ok (.tuple #[.int .i64 c, .bool true]) ((((wr.alloc o1).alloc o2).alloc o3).alloc o4) :=
              fun o1 o2 o3 o4 => ((((HO.out.alloc o1).alloc o2).alloc o3).alloc o4).run_look_ok hkey hc hhas
            have hl2 : ∀ o1 o2 o3 o4, (Instr.lookup 25 (.map (some w.heap.size)) (.string s) false).run Yba.prog ((((wr.alloc o1).alloc o2).alloc o3).alloc o4) = .ok (.int .i64 c) ((((wr.alloc o1).alloc o2).alloc o3).alloc o4) :=
              fun o1 o2 o3 o4 => ((((HO.out.alloc o1).alloc o2).alloc o3).alloc o4).run_look hkey hc
            clear hs hkey hhas hc ha6 hcell6 hsz6
            go_wp2
            go_round
            case rel => exact ⟨j + 1, by omega, by go_num⟩
            case measure => simp [intOf]; omega
          · go_wp2
            go_ret
            exact ⟨rfl, fin _ _ _ _⟩
end Go.Proofs.Ybulkbtdo
