/-
  THE WALK OF LawS5035CFresh.
-/
import Derived.Test.YbulkczgeNew
namespace Go.Proofs.Ybulkczge
open Go.RowKit Go.Lib
attribute [local go_sem ↓] Go.wp_at_zero Go.wp_at_succ
attribute [local go_sem] setCell_drewN alloc_drewN
theorem n33 (w : World) : (binOp .neq 33 .nilIface .nilIface).run Yba.prog w = .ok (.bool false) w := by kernel_rfl
/-- the loop that writes into the decrypter's key -/
structure L1 (w wr : World) (g g2 D n c2 : Nat) (z : Nat → Int) : Prop where
  dk : wr.cell? ⟨D, 0, none⟩ = some (.slice (some ⟨g2, 0, none⟩) n c2)
  ex : ∀ k, k < n → ∃ v : Int, wr.cell? ⟨g2, k, none⟩ = some (.int .u8 v)
  fz : ∀ k, wr.frozen? ⟨g2, k, none⟩ = false
  cp : ∀ k, k < n → wr.cell? ⟨g, k, none⟩ = some (.int .u8 (z k))
  bel : Below w.heap.size w wr
  ge : w.heap.size ≤ g2
  n1 : g ≠ g2
  n2 : D ≠ g2
theorem L1.step {w wr : World} {g g2 D n c2 : Nat} {z : Nat → Int} (h : L1 w wr g g2 D n c2 z) (k : Nat) (v : Int) : L1 w (wr.setCell ⟨g2, k, none⟩ (.int .u8 v)) g g2 D n c2 z := by
  refine ⟨?_, fun i hi => ?_, fun i => ?_, fun i hi => ?_, h.bel.setCell h.ge _, h.ge, h.n1, h.n2⟩
  · rw [World.cell?_setCell_other _ _ _ _ (by intro e; cases e; exact h.n2 rfl)]; exact h.dk
  · obtain ⟨u, hu⟩ := h.ex i hi
    by_cases e : i = k
    · subst e
      exact ⟨v, World.cell?_setCell_same _ _ _ hu⟩
    · exact ⟨u, by rw [World.cell?_setCell_other _ _ _ _ (by intro e'; cases e'; exact e rfl)]; exact hu⟩
  · rw [World.frozen?_setCell]; exact h.fz i
  · rw [World.cell?_setCell_other _ _ _ _ (by intro e; cases e; exact h.n1 rfl)]; exact h.cp i hi
theorem L1.drewN {w wr : World} {g g2 D n c2 : Nat} {z : Nat → Int} (h : L1 w wr g g2 D n c2 z) (m : Nat) : L1 w (wr.drewN m) g g2 D n c2 z := ⟨h.dk, h.ex, h.fz, h.cp, below_drewN h.bel m, h.ge, h.n1, h.n2⟩
set_option maxHeartbeats 1000000 in
set_option maxRecDepth 100000 in
theorem freshKey (x : Addr) (len cap : Nat) (z : Nat → Int) (w : World) (hlen : len ≤ 4096) (hx : ∀ i, i < len → w.cell? (x.add i) = some (.int .u8 (z i))) :
    Calls Yba.prog 4 #[.slice (some x) len cap] w fun e w' => e = .returned (.bool true) ∧ Below w.heap.size w w' := by
  have h4096 : decide ((4096 : Int) < len) = false := by simp; omega
  have h33 := n33
  have HX : Hid (∀ i, i < len → w.cell? (x.add i) = some (.int .u8 (z i))) := hx
  clear hx
  go_enter Yba.func4, Yba.ntmps4
  go_wp2_with fail
  refine (clone5_at x len cap z _ hlen HX).mono ?_
  rintro e w1 ⟨g, c1, rfl, C1⟩
  clear h4096
  go_wp2_with fail
  refine (nd_key g len c1 z _ hlen C1.cs).mono ?_
  rintro e w2 ⟨g2, c2, rfl, C2⟩
  simp only [dec]
  go_wp2_with fail
  have hsz1 := C1.bel.size
  have hsz2 := C2.bel.size
  have hg := C1.lt
  have hg2 := C2.lt
  have hg2' := C2.ge
  have F0 : L1 w (w2.alloc (.cells #[.slice (some ⟨g2, 0, none⟩) len c2, .string ⟨#[]⟩, .bool false, .nilIface, .nilFunc, .pointer none, .slice none 0 0, .nilIface, .slice none 0 0, .bool false, .string ⟨#[]⟩, .bool false] 31)) g g2 w2.heap.size len c2 z := by
    refine ⟨by simp [go_sem], fun k hk => ⟨z k, ?_⟩, fun k => ?_, fun k hk => ?_, ?_, by omega, by omega, by omega⟩
    · exact Lib.cell?_alloc_some _ (C2.cs k hk)
    · rw [World.frozen?_of_block ((MapKept.heap_alloc w2 _).2 _ hg2)]; exact C2.fz k
    · exact Lib.cell?_alloc_some _ ((C2.bel.cell (p := ⟨g, k, none⟩) hg).trans (C1.cs k hk))
    · exact (C1.bel.trans (C2.bel.mono hsz1)).alloc (by omega) _
  have hD : w2.heap.size = w2.heap.size := rfl
  go_loopw [6] (fun i wr => ∃ k : Nat, k ≤ len ∧ i = .int .i64 k ∧ L1 w wr g g2 w2.heap.size len c2 z) (fun i _ => len - (intOf i).toNat)
  case atStart => exact ⟨0, by omega, rfl, F0⟩
  case round =>
    clear F0
    obtain ⟨k, hk, rfl, F⟩ := hrel
    have d0 := F.dk
    by_cases hlt : k < len
    · obtain ⟨v, hv⟩ := F.ex k hlt
      have f0 := F.fz k
      have hD2 := F.n2
      go_wp2_with fail
      go_region
      go_wp2
      go_roundw
      case rel => exact ⟨k + 1, by omega, by go_num, (F.step k _).drewN _⟩
      case measure => simp [intOf]; omega
    · have hkl : k = len := by omega
      subst hkl
      go_wp2
      have F0 := F
      clear d0 hlt F hk
      go_loopw [7] (fun i wq => ∃ q : Nat, q ≤ k ∧ i = .int .i64 q ∧ L1 w wq g g2 w2.heap.size k c2 z) (fun i _ => k - (intOf i).toNat)
      case atStart => exact ⟨0, by omega, rfl, F0⟩
      case round =>
        clear F0
        obtain ⟨q, hq, rfl, F⟩ := hrel
        by_cases hlt : q < k
        · have hkey := HX q hlt
          obtain ⟨b, off, spot⟩ := x
          have hspot : spot = none := by
            have := World.cell?_spot (HX 0 (by omega))
            simpa [Addr.add] using this
          subst hspot
          have hbk : b < w.heap.size := by
            have := lt_of_cell hkey
            rwa [WideShapes.add_plain] at this
          rw [WideShapes.add_plain] at hkey
          have a0 := (F.bel.cell (p := ⟨b, off + q, none⟩) hbk).trans hkey
          have b0 := F.cp q hlt
          clear hkey
          go_wp2_with fail
          go_quiet (fail)
          go_wp2
          go_roundw
          case rel => exact ⟨q + 1, by omega, by go_num, F.drewN _⟩
          case measure => simp [intOf]; omega
        · have hkl : q = k := by omega
          subst hkl
          go_wp2
          go_ret
          exact ⟨rfl, F.bel⟩
set_option maxHeartbeats 1000000 in
set_option maxRecDepth 100000 in
theorem freshNil (w : World) : Calls Yba.prog 4 #[.slice none 0 0] w fun e w' => e = .returned (.bool true) ∧ Below w.heap.size w w' := by
  have h33 := n33
  go_enter Yba.func4, Yba.ntmps4
  go_wp2_with fail
  refine (clone5_nil _).mono ?_
  rintro e w1 ⟨rfl, rfl⟩
  go_wp2_with fail
  refine (nd_nil _ _).mono ?_
  rintro e w2 ⟨rfl, B2⟩
  simp only [dec]
  go_wp2_with fail
  refine wp_loop_rounds 1 ?_
  rw [rounds_succ]
  go_wp2
  refine wp_loop_rounds 1 ?_
  rw [rounds_succ]
  go_wp2
  go_ret
  exact ⟨rfl, B2.alloc B2.size _⟩
theorem freshMany (a : Option Addr) (len cap : Nat) (w : World) (h : 4096 < len) : Calls Yba.prog 4 #[.slice a len cap] w fun e w' => e = .returned (.bool true) ∧ Below w.heap.size w w' := by
  have h' : (4096 : Int) < len := by omega
  go_enter Yba.func4, Yba.ntmps4
  go_wp2
  go_ret
  exact ⟨rfl, Below.refl _ _⟩
end Go.Proofs.Ybulkczge
