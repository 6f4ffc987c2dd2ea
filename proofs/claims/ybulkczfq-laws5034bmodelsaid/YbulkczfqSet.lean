/-
  THE WALKS OF (*lows).get AND (*lows).set.
-/
import Derived.Test.YbulkczfqParts
import Derived.BigQuiet
import Derived.Deep.QuietTactic
import Derived.BigRegion
namespace Go.Proofs.Ybulkczfq
open Go.RowKit Go.Maps

theorem Fr.drewN {S : Nat → Prop} {w w' : World} (h : Fr S w w') (n : Nat) : Fr S w (w'.drewN n) := ⟨h.os, h.tape, h.output, h.size, h.block⟩
theorem get_nil (sb : Nat) (x : Int) (w : World) (c0 : w.cell? ⟨sb, 0, none⟩ = some (.map none)) :
    Calls Yba.prog 7 #[.pointer (some ⟨sb, 0, none⟩), .int .i64 x] w fun e w' => e = .returned (.tuple #[.int .i64 0, .bool false]) ∧ w' = w := by
  have hl := fun w ty => Maps.len_nil (P := Yba.prog) (w := w) Yba.underlying23 ty
  go_enter Yba.func7, Yba.ntmps7
  go_wp2
  go_ret2
  exact ⟨rfl, rfl⟩

theorem get_some (sb bm n : Nat) (D : DataW Unit) (x v : Int) (w : World) (c0 : w.cell? ⟨sb, 0, none⟩ = some (.map (some bm)))
   (hown : w.ownsMap Yba.prog 2 (plainElem Yba.prog 2) bm n D) (hx : (Lit.int .i64 x).wf = true) (hh : Maps.has D (.int .i64 x) = true) (hv : D.atKey (.int .i64 x) (.lit (.int .i64 0)) = .lit (.int .i64 v)) :
    Calls Yba.prog 7 #[.pointer (some ⟨sb, 0, none⟩), .int .i64 x] w fun e w' => e = .returned (.tuple #[.int .i64 v, .bool true]) ∧ w' = w := by
  have h0 : 0 < Maps.size D := by
    obtain ⟨es, rfl⟩ := hown.isMap
    cases es
    · simp [Maps.has] at hh
    · simp [Maps.size]
  have h0' : ((Maps.size D : Int) == 0) = false := by simp; omega
  have hl := fun ty => hown.len Yba.underlying23 ty
  have HV : Hid (D.atKey (.int .i64 x) (.lit (.int .i64 0)) = .lit (.int .i64 v)) := hv
  clear hv
  go_enter Yba.func7, Yba.ntmps7
  go_wp2_with (first
    | (at_lookup; refine wpList_lookup_own_ok_int _ rfl _ _ 23 rfl 2 2 .i64 law2 Yba.underlying23 Yba.underlying2 (zero2 _) bm n D rfl hown _ _ rfl (keyOf_int_mk Yba.underlying2 hx) ?_; intro c hat hwc)
    | go_in)
  go_ret2
  have hc := hat.symm.trans HV
  simp only [DataW.lit.injEq, Lit.int.injEq, true_and] at hc
  rw [hc]
  exact ⟨rfl, rfl⟩

set_option maxHeartbeats 400000 in
/-- set, the map made, no sweep -/
theorem set_plain (sb bm n kept : Nat) (D : DataW Unit) (x low base : Int) (w : World) (c0 : w.cell? ⟨sb, 0, none⟩ = some (.map (some bm))) (c1 : w.cell? ⟨sb, 1, none⟩ = some (.int .i64 kept))
    (hown : w.ownsMap Yba.prog 2 (plainElem Yba.prog 2) bm n D) (hx : (Lit.int .i64 x).wf = true) (hlow : (Lit.int .i64 low).wf = true) (hn : n ≤ 1000000) (hk : kept ≤ 1000000)
    (hs : ¬ 2 * kept + 64 < Maps.size (D.put (.int .i64 x) (.lit (.int .i64 low)))) :
    Calls Yba.prog 6 #[.pointer (some ⟨sb, 0, none⟩), .int .i64 x, .int .i64 low, .int .i64 base] w fun e w' => e = .returned (.tuple #[]) ∧
      w'.ownsMap Yba.prog 2 (plainElem Yba.prog 2) bm (n + 1) (D.put (.int .i64 x) (.lit (.int .i64 low))) ∧ Fr (fun i => i = bm) w w' := by
  have hmn := fun w r => run_eql_map_nil (P := Yba.prog) w 23 2 2 r Yba.underlying23
  have hne := map_ne_cell hown c0
  go_enter Yba.func6, Yba.ntmps6
  go_wp2_with (first
    | (at_mapUpdate; refine wpList_mapUpdate_own _ rfl _ _ _ 23 rfl 2 2 law2 Yba.underlying23 _ bm n _ rfl hown (by unfold maxLen; omega) _ _ _ rfl rfl (keyOf_int_mk Yba.underlying2 hx) _ [] (plainElem_int Yba.underlying2 hlow) ?_; intro w1 hown1 hgrow1)
    | go_in)
  have d0 : w1.cell? ⟨sb, 0, none⟩ = some (.map (some bm)) := ((Fr.of_grown hgrow1).cell (lt_of_cell c0) (by simp; exact Ne.symm hne)).trans c0
  have d1 : w1.cell? ⟨sb, 1, none⟩ = some (.int .i64 kept) := ((Fr.of_grown hgrow1).cell (lt_of_cell c1) (by simp; exact Ne.symm hne)).trans c1
  have hsz := hown1.size_le
  have HO : Hid (w1.ownsMap Yba.prog 2 (plainElem Yba.prog 2) bm (n + 1) (D.put (.int .i64 x) (.lit (.int .i64 low)))) := hown1
  have hl1 := fun m ty => (show (w1.drewN m).ownsMap Yba.prog 2 (plainElem Yba.prog 2) bm (n + 1) (D.put (.int .i64 x) (.lit (.int .i64 low))) from hown1).len Yba.underlying23 ty
  have hl0 := fun ty => hown1.len Yba.underlying23 ty
  have hl2 := fun ty => (show w1.drew.ownsMap Yba.prog 2 (plainElem Yba.prog 2) bm (n + 1) (D.put (.int .i64 x) (.lit (.int .i64 low))) from hown1).len Yba.underlying23 ty
  have hs' : ¬ (2 * (kept : Int) + 64 < (Maps.size (D.put (.int .i64 x) (.lit (.int .i64 low))) : Int)) := by omega
  clear hown1 c0 c1
  go_quiet (fail)
  go_wp2
  go_end0
  exact ⟨rfl, HO, ((Fr.of_grown hgrow1).mono (T := fun i => i = bm) (by simp)).drewN _⟩

set_option maxHeartbeats 1000000 in
set_option maxRecDepth 100000 in
/-- set, the map made, with a sweep -/
theorem set_sweep (sb bm n kept : Nat) (D : DataW Unit) (x low base : Int) (w : World) (c0 : w.cell? ⟨sb, 0, none⟩ = some (.map (some bm))) (c1 : w.cell? ⟨sb, 1, none⟩ = some (.int .i64 kept)) (f0 : w.frozen? ⟨sb, 0, none⟩ = false) (f1 : w.frozen? ⟨sb, 1, none⟩ = false)
    (hown : w.ownsMap Yba.prog 2 (plainElem Yba.prog 2) bm n D) (hx : (Lit.int .i64 x).wf = true) (hlow : (Lit.int .i64 low).wf = true) (hn : n ≤ 1000000) (hk : kept ≤ 1000000)
    (hs : 2 * kept + 64 < Maps.size (D.put (.int .i64 x) (.lit (.int .i64 low)))) :
    Calls Yba.prog 6 #[.pointer (some ⟨sb, 0, none⟩), .int .i64 x, .int .i64 low, .int .i64 base] w fun e w' => e = .returned (.tuple #[]) ∧
      w'.ownsMap Yba.prog 2 (plainElem Yba.prog 2) bm (n + 1) (sweep base (D.put (.int .i64 x) (.lit (.int .i64 low)))) ∧
      w'.cell? ⟨sb, 1, none⟩ = some (.int .i64 (Maps.size (sweep base (D.put (.int .i64 x) (.lit (.int .i64 low))))))
      ∧ w'.cell? ⟨sb, 0, none⟩ = some (.map (some bm)) ∧ w'.frozen? ⟨sb, 0, none⟩ = false ∧ w'.frozen? ⟨sb, 1, none⟩ = false ∧ Fr (fun i => i = bm ∨ i = sb) w w' := by
  have hmn := fun w r => run_eql_map_nil (P := Yba.prog) w 23 2 2 r Yba.underlying23
  have hne := map_ne_cell hown c0
  have hsb := lt_of_cell c0
  obtain ⟨es, hes⟩ : ∃ es, D.put (.int .i64 x) (.lit (.int .i64 low)) = .map es := hown.isMap.put _ _
  have HE : Hid (D.put (.int .i64 x) (.lit (.int .i64 low)) = .map es) := hes
  rw [hes] at hs ⊢
  clear hes
  go_enter Yba.func6, Yba.ntmps6
  go_wp2_with (first
    | (at_mapUpdate; refine wpList_mapUpdate_own _ rfl _ _ _ 23 rfl 2 2 law2 Yba.underlying23 _ bm n _ rfl hown (by unfold maxLen; omega) _ _ _ rfl rfl (keyOf_int_mk Yba.underlying2 hx) _ [] (plainElem_int Yba.underlying2 hlow) ?_; intro w1 hown1 hgrow1)
    | go_in)
  have hfr1 : Fr (fun i => i = bm) w w1 := (Fr.of_grown hgrow1).mono (by simp)
  have d0 : w1.cell? ⟨sb, 0, none⟩ = some (.map (some bm)) := (hfr1.cell hsb (Ne.symm hne)).trans c0
  have d1 : w1.cell? ⟨sb, 1, none⟩ = some (.int .i64 kept) := (hfr1.cell hsb (Ne.symm hne)).trans c1
  have e1 : w1.frozen? ⟨sb, 1, none⟩ = false := (hfr1.frozen hsb (Ne.symm hne)).trans f1
  have e0 : w1.frozen? ⟨sb, 0, none⟩ = false := (hfr1.frozen hsb (Ne.symm hne)).trans f0
  have hsb1 : sb < w1.heap.size := Nat.lt_of_lt_of_le hsb hfr1.size
  have hsz := hown1.size_le
  rw [HE] at hown1 hsz
  have hkl : ∀ p ∈ es, WideAt.IsKeyLit p.1 := by
    obtain ⟨es', he', _, hk'⟩ := hown1.entries law2
    cases he'
    exact hk'
  have hl1 := fun m ty => (show (w1.drewN m).ownsMap Yba.prog 2 (plainElem Yba.prog 2) bm (n + 1) (.map es) from hown1).len Yba.underlying23 ty
  have HO : Hid (w1.ownsMap Yba.prog 2 (plainElem Yba.prog 2) bm (n + 1) (.map es)) := hown1
  have hs' : (2 * (kept : Int) + 64 < (Maps.size (.map es : DataW Unit) : Int)) := by omega
  clear hown1 c0 c1 hown f0 f1 hgrow1
  go_quiet (fail)
  clear hl1
  have hown2 : (w1.drewN nq).ownsMap Yba.prog 2 (plainElem Yba.prog 2) bm (n + 1) (.map es) := HO
  have hfr2 : Fr (fun i => i = bm) w (w1.drewN nq) := hfr1.drewN nq
  have d0' : (w1.drewN nq).cell? ⟨sb, 0, none⟩ = some (.map (some bm)) := d0
  have e1' : (w1.drewN nq).frozen? ⟨sb, 1, none⟩ = false := e1
  have e0' : (w1.drewN nq).frozen? ⟨sb, 0, none⟩ = false := e0
  have d1' : (w1.drewN nq).cell? ⟨sb, 1, none⟩ = some (.int .i64 kept) := d1
  have hsb2 : sb < (w1.drewN nq).heap.size := hsb1
  clear d0 e0 e1 d1 hsb1 HO hfr1
  generalize w1.drewN nq = w2 at *
  go_wp2_with (first
    | (at_range; refine wpList_range_own _ rfl _ 23 rfl 2 2 law2 Yba.underlying23 _ bm (n + 1) _ rfl hown2 ?_; intro w3 hrg0 hg0 hs0)
    | go_in)
  go_frame
  have hfr3 : Fr (fun i => i = bm) w2 w3 := (Fr.of_grown hg0).mono (by simp)
  go_loopw [8] (fun _ wr => ∃ (left : Lit → Bool) (cnt : Nat), wr.ranges Yba.prog 2 (plainElem Yba.prog 2) bm w2.heap.size (n + 1) (sweepTo base es left) left cnt ∧ Fr (fun i => i = bm) w2 wr)
    (fun _ wr => wr.rangeLeft bm w2.heap.size)
  case atStart => exact ⟨_, _, by rw [sweepTo_start hkl]; exact hrg0, hfr3⟩
  case round =>
    clear hrg0 hg0 hs0 hfr3
    obtain ⟨left, cnt, hrg, hfr⟩ := hrel
    have k0 : wr.cell? ⟨sb, 0, none⟩ = some (.map (some bm)) := (hfr.cell hsb2 (Ne.symm hne)).trans d0'
    have k1 : wr.cell? ⟨sb, 1, none⟩ = some (.int .i64 kept) := (hfr.cell hsb2 (Ne.symm hne)).trans d1'
    have k2 : wr.frozen? ⟨sb, 1, none⟩ = false := (hfr.frozen hsb2 (Ne.symm hne)).trans e1'
    have k3 : wr.frozen? ⟨sb, 0, none⟩ = false := (hfr.frozen hsb2 (Ne.symm hne)).trans e0'
    go_wp2_with (first
      | (at_next; refine wpList_next_ranges_ii _ rfl _ rfl 2 2 .i64 .i64 law2 Yba.underlying2 Yba.underlying2 bm w2.heap.size (n + 1) _ _ _ rfl hrg ?_ ?_)
      | go_in)
    · intro _ hl0
      have ho := hrg.owns
      rw [sweepTo_end hl0] at ho
      have hle := fun m ty => (show (wr.drewN m).ownsMap Yba.prog 2 (plainElem Yba.prog 2) bm (n + 1) (sweep base (.map es)) from ho).len Yba.underlying23 ty
      have hle0 := fun ty => ho.len Yba.underlying23 ty
      go_wp2
      go_end0
      refine ⟨rfl, ho.setCell hne _, World.cell?_setCell_same _ _ _ k1, ?_, ?_, ?_, ?_⟩
      · rw [World.cell?_setCell_other _ _ _ _ (by simp)]; exact k0
      · rw [World.frozen?_setCell]; exact k3
      · rw [World.frozen?_setCell]; exact k2
      · exact ((hfr2.mono (T := fun i => i = bm ∨ i = sb) (fun i h => Or.inl h)).trans hfr (fun i _ h => Or.inl h)).trans (Fr.setCell wr _ _) (fun i _ h => Or.inr h)
    · intro y c w4 cnt1 hwx hwc hlx hat hrg1 hlt hg1 hs1 hen
      have hfr4 : Fr (fun i => i = bm) w2 w4 := hfr.trans (Fr.of_grown hg1) (fun i hi h => by simp at h; omega)
      have j0 : w4.cell? ⟨sb, 0, none⟩ = some (.map (some bm)) := (hfr4.cell hsb2 (Ne.symm hne)).trans d0'
      by_cases hyb : y < base
      · go_wp2_with (first
          | (at_delete; refine wpList_delete_ranges _ rfl _ _ 23 2 rfl 2 law2 Yba.underlying23 _ bm w2.heap.size (n + 1) _ _ _ rfl hrg1 _ _ rfl (keyOf_int_mk Yba.underlying2 hwx) ?_; intro w5 cnt2 hrg2 hle hturn; go_frame)
          | go_in)
        rw [strike_twice] at hrg2
        go_roundw
        case rel => exact ⟨_, cnt2, by rw [← sweepTo_struck (kl := .int .i64 y) (by simp [lowKey, hyb])]; exact hrg2, hfr4.trans (Fr.of_grown hturn.grown) (fun i _ h => by simpa using h)⟩
        case measure => rw [hrg2.left_eq, hrg.left_eq]; omega
      · go_wp2
        go_roundw
        case rel => exact ⟨_, cnt1, by rw [← sweepTo_stays (kl := .int .i64 y) (by simp [lowKey]; omega)]; exact hrg1, hfr4⟩
        case measure => rw [hrg1.left_eq, hrg.left_eq]; exact hlt

set_option maxHeartbeats 400000 in
/-- set, the first one: the map is made -/
theorem set_nil (sb : Nat) (x low base : Int) (w : World) (c0 : w.cell? ⟨sb, 0, none⟩ = some (.map none)) (c1 : w.cell? ⟨sb, 1, none⟩ = some (.int .i64 0)) (f0 : w.frozen? ⟨sb, 0, none⟩ = false) (f1 : w.frozen? ⟨sb, 1, none⟩ = false)
    (hx : (Lit.int .i64 x).wf = true) (hlow : (Lit.int .i64 low).wf = true) :
    Calls Yba.prog 6 #[.pointer (some ⟨sb, 0, none⟩), .int .i64 x, .int .i64 low, .int .i64 base] w fun e w' => e = .returned (.tuple #[]) ∧
      w'.ownsMap Yba.prog 2 (plainElem Yba.prog 2) w.heap.size 1 ((.map [] : DataW Unit).put (.int .i64 x) (.lit (.int .i64 low))) ∧
      w'.cell? ⟨sb, 1, none⟩ = some (.int .i64 0) ∧ w'.cell? ⟨sb, 0, none⟩ = some (.map (some w.heap.size)) ∧ w'.frozen? ⟨sb, 0, none⟩ = false ∧ w'.frozen? ⟨sb, 1, none⟩ = false ∧ Fr (fun i => i = sb) w w' := by
  have hmn := fun w r => run_eql_map_nil (P := Yba.prog) w 23 2 2 r Yba.underlying23
  have hmm := @run_makeMap Yba.prog
  have hsb : sb < w.heap.size := lt_of_cell c0
  have hsz1 : Maps.size ((.map [] : DataW Unit).put (.int .i64 x) (.lit (.int .i64 low))) = 1 := by
    simp [DataW.put, Maps.size, DataW.insert]
  have hsc : (w.setCell ⟨sb, 0, none⟩ (.map (some w.heap.size))).heap.size = w.heap.size := by simp
  have hown0 : ((w.setCell ⟨sb, 0, none⟩ (.map (some w.heap.size))).alloc (.map #[] 0)).ownsMap Yba.prog 2 (plainElem Yba.prog 2) w.heap.size 0 (.map [] : DataW Unit) := by
    have h := World.ownsMap_made (H := Unit) (w.setCell ⟨sb, 0, none⟩ (.map (some w.heap.size))) Yba.prog 2 (plainElem Yba.prog 2)
    rw [hsc] at h
    exact h
  have hfr0 : Fr (fun i => i = sb) w ((w.setCell ⟨sb, 0, none⟩ (.map (some w.heap.size))).alloc (.map #[] 0)) := (Fr.setCell w ⟨sb, 0, none⟩ (.map (some w.heap.size))).trans (Fr.alloc _ _) (fun _ _ h => h.elim)
  have b0 : ((w.setCell ⟨sb, 0, none⟩ (.map (some w.heap.size))).alloc (.map #[] 0)).cell? ⟨sb, 0, none⟩ = some (.map (some w.heap.size)) := by
    rw [World.cell?_alloc_past _ _ _ (by simp; omega)]; exact World.cell?_setCell_same _ _ _ c0
  have b1 : ((w.setCell ⟨sb, 0, none⟩ (.map (some w.heap.size))).alloc (.map #[] 0)).cell? ⟨sb, 1, none⟩ = some (.int .i64 0) := by
    rw [World.cell?_alloc_past _ _ _ (by simp; omega), World.cell?_setCell_other _ _ _ _ (by simp)]; exact c1
  have b2 : ((w.setCell ⟨sb, 0, none⟩ (.map (some w.heap.size))).alloc (.map #[] 0)).frozen? ⟨sb, 0, none⟩ = false := by
    rw [World.frozen?_alloc_old _ _ _ (by simp; omega), World.frozen?_setCell]; exact f0
  have b3 : ((w.setCell ⟨sb, 0, none⟩ (.map (some w.heap.size))).alloc (.map #[] 0)).frozen? ⟨sb, 1, none⟩ = false := by
    rw [World.frozen?_alloc_old _ _ _ (by simp; omega), World.frozen?_setCell]; exact f1
  have hsb0 : sb < ((w.setCell ⟨sb, 0, none⟩ (.map (some w.heap.size))).alloc (.map #[] 0)).heap.size := by simp; omega
  go_enter Yba.func6, Yba.ntmps6
  go_wp2_with (first
    | (at_mapUpdate; refine wpList_mapUpdate_own _ rfl _ _ _ 23 rfl 2 2 law2 Yba.underlying23 _ w.heap.size 0 _ rfl hown0 (by unfold maxLen; omega) _ _ _ rfl rfl (keyOf_int_mk Yba.underlying2 hx) _ [] (plainElem_int Yba.underlying2 hlow) ?_; intro w1 hown1 hgrow1)
    | go_in)
  have hfr1 : Fr (fun i => i = w.heap.size) _ w1 := (Fr.of_grown hgrow1).mono (by simp)
  have hne : sb ≠ w.heap.size := by omega
  have d0 : w1.cell? ⟨sb, 0, none⟩ = some (.map (some w.heap.size)) := (hfr1.cell hsb0 hne).trans b0
  have d1 : w1.cell? ⟨sb, 1, none⟩ = some (.int .i64 0) := (hfr1.cell hsb0 hne).trans b1
  have e0 : w1.frozen? ⟨sb, 0, none⟩ = false := (hfr1.frozen hsb0 hne).trans b2
  have e1 : w1.frozen? ⟨sb, 1, none⟩ = false := (hfr1.frozen hsb0 hne).trans b3
  have HO : Hid (w1.ownsMap Yba.prog 2 (plainElem Yba.prog 2) w.heap.size 1 ((.map [] : DataW Unit).put (.int .i64 x) (.lit (.int .i64 low)))) := hown1
  have hl1 := fun m ty => (show (w1.drewN m).ownsMap Yba.prog 2 (plainElem Yba.prog 2) w.heap.size 1 ((.map [] : DataW Unit).put (.int .i64 x) (.lit (.int .i64 low))) from hown1).len Yba.underlying23 ty
  rw [hsz1] at hl1
  clear hown1 c0 c1 f0 f1 hown0 b0 b1 b2 b3 hsz1 hsc hgrow1
  go_quiet (fail)
  go_wp2
  go_end0
  exact ⟨rfl, HO, d1, d0, e0, e1, (hfr0.trans hfr1 (fun i hi h => by omega)).drewN _⟩
end Go.Proofs.Ybulkczfq
