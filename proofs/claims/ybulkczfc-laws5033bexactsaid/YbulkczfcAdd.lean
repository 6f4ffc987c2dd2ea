/-
  THE WALK OF hashweave.addMulWord: what it leaves in t.
-/
import Derived.Test.YbulkczfcRows
import Derived.Test.YbulkczfcShelf
import Derived.Test.YbulkczfcPlain
import Derived.WalkKit
import Derived.WalkSpells
import Derived.WalkLawsBesides
import Derived.StillTactics
import Derived.Laws.Pointers
import Derived.Deep.RegionHeld3
import Derived.Deep.DrawnRows
import Derived.Deep.QuietTactic
import Derived.BigQuiet
import Derived.RowKit3
namespace Go.Proofs.Ybulkczfc
open Go.RowKit Go.Shelf
attribute [local go_sem ↓] Go.wp_at_zero Go.wp_at_succ

theorem setCell_drewN (w : World) (n : Nat) (a : Addr) (v : Value) : (w.drewN n).setCell a v = (w.setCell a v).drewN n := rfl
def stW (w : World) (bt : Nat) (r : Nat → Int) : Nat → World
  | 0 => w
  | k + 1 => (stW w bt r k).setCell ⟨bt, k, none⟩ (.int .u64 (r k))

theorem stW_far (w : World) (bt : Nat) (r : Nat → Int) (k : Nat) (a : Addr) (h : a.block ≠ bt ∨ k ≤ a.off) : (stW w bt r k).cell? a = w.cell? a := by
  induction k with
  | zero => rfl
  | succ k ih =>
    rw [stW, World.cell?_setCell_other, ih]
    · rcases h with h | h
      · exact Or.inl h
      · exact Or.inr (by omega)
    · intro e; subst e; simp at h; omega
theorem stW_frozen (w : World) (bt : Nat) (r : Nat → Int) (k : Nat) (a : Addr) : (stW w bt r k).frozen? a = w.frozen? a := by
  induction k with
  | zero => rfl
  | succ k ih => rw [stW, World.frozen?_setCell, ih]

set_option maxHeartbeats 400000 in
theorem addMul (bt bx : Nat) (t x : Nat → Int) (W : Int) (hb : bt ≠ bx) (w : World)
    (ht : ∀ j, j < 6 → w.cell? ⟨bt, j, none⟩ = some (.int .u64 (t j)))
    (hf : ∀ j, j < 6 → w.frozen? ⟨bt, j, none⟩ = false)
    (hx : ∀ j, j < 5 → w.cell? ⟨bx, j, none⟩ = some (.int .u64 (x j)))
    (bx0 : ∀ j, 0 ≤ x j ∧ x j < 18446744073709551616) (bt0 : ∀ j, 0 ≤ t j ∧ t j < 18446744073709551616) (bW : 0 ≤ W ∧ W < 18446744073709551616) :
    Calls Yba.prog 5 #[.pointer (some ⟨bt, 0, none⟩), .pointer (some ⟨bx, 0, none⟩), .int .u64 W] w fun e w' => e = .returned (.tuple #[]) ∧
      ∃ n, w' = ((stW w bt (Rw t x W) 5).setCell ⟨bt, 5, none⟩ (.int .u64 ((t 5 + Cy t x W 5) % 18446744073709551616))).drewN n := by
  go_enter Yba.func5, Yba.ntmps5
  go_wp2
  go_loopw [6, 13] (fun c i wr => ∃ k n : Nat, k ≤ 5 ∧ i = .int .i64 k ∧ c = .int .u64 (Cy t x W k) ∧ wr = (stW w bt (Rw t x W) k).drewN n) (fun _ i _ => 5 - (intOf i).toNat)
  case atStart => exact ⟨0, 0, by omega, rfl, rfl, rfl⟩
  case round =>
    obtain ⟨k, n, hk, rfl, rfl, rfl⟩ := hrel
    by_cases hlt : k < 5
    · have h1 : (stW w bt (Rw t x W) k).cell? ⟨bt, k, none⟩ = some (.int .u64 (t k)) := by rw [stW_far _ _ _ _ _ (Or.inr (by simp))]; exact ht k (by omega)
      have h2 : (stW w bt (Rw t x W) k).cell? ⟨bx, k, none⟩ = some (.int .u64 (x k)) := by rw [stW_far _ _ _ _ _ (Or.inl (Ne.symm hb))]; exact hx k (by omega)
      have h3 : (stW w bt (Rw t x W) k).frozen? ⟨bt, k, none⟩ = false := by rw [stW_frozen]; exact hf k (by omega)
      obtain ⟨X1, X2⟩ := bx0 k
      obtain ⟨T1, T2⟩ := bt0 k
      obtain ⟨W1, W2⟩ := bW
      have bW0 : 0 ≤ W ∧ W < 18446744073709551616 := ⟨W1, W2⟩
      have HV : Hid (stW w bt (Rw t x W) (k + 1) = (stW w bt (Rw t x W) k).setCell ⟨bt, k, none⟩ (.int .u64 (Rw t x W k))) := rfl
      generalize stW w bt (Rw t x W) k = v at *
      clear ht hf hx
      have hi0 : (0 : Int) ≤ (k : Int) := by omega
      have hi5 : (k : Int) < 5 := by omega
      have hi6 : (k : Int) < 6 := by omega
      obtain ⟨C1, C2⟩ := Cy_bd t x W k (by intro j; exact bx0 j) (by intro j; exact bt0 j) bW0
      have HC : Hid (Cy t x W (k + 1) = (x k * W + Cy t x W k + t k) / 18446744073709551616) := rfl
      have HR : Hid (Rw t x W k = (x k * W + Cy t x W k + t k) % 18446744073709551616) := rfl
      clear bx0 bt0
      generalize Cy t x W k = c at *
      go_wp2
      go_quiet (fail)
      go_wp2_with fail
      refine (Yba.mul64 (x k) W X1 X2 W1 W2 _).mono ?_
      rintro e w' ⟨rfl, rfl⟩
      have p1 : 0 ≤ x k * W := Int.mul_nonneg X1 W1
      have p2 : x k * W ≤ 18446744073709551615 * 18446744073709551615 := by
        exact Int.mul_le_mul (by omega) (by omega) W1 (by omega)
      generalize x k * W = p at *
      go_wp2_with (simp only [Yba.add64_0 (p % 18446744073709551616) c (by omega) C1])
      have ha := fun w => Yba.add64_0 (t k) ((p + c) % 18446744073709551616) T1 (by omega) w
      go_region_with (fail)
      go_wp2
      go_roundw
      case rel =>
        refine ⟨k + 1, n + nq + 1, by omega, by go_num, ?_, ?_⟩
        · rw [HC]; congr 1; omega
        · rw [HV, HR, setCell_drewN]; congr 4; omega
      case measure => simp [intOf]; omega
    · have hk5 : k = 5 := by omega
      subst hk5
      have h1 : (stW w bt (Rw t x W) 5).cell? ⟨bt, 5, none⟩ = some (.int .u64 (t 5)) := by rw [stW_far _ _ _ _ _ (Or.inr (by simp))]; exact ht 5 (by omega)
      have h3 : (stW w bt (Rw t x W) 5).frozen? ⟨bt, 5, none⟩ = false := by rw [stW_frozen]; exact hf 5 (by omega)
      clear ht hf hx
      go_wp2
      go_region_with (fail)
      go_wp2
      go_end0
      refine ⟨rfl, n + 1, ?_⟩
      rw [setCell_drewN, IntKind.wrap_u64]
end Go.Proofs.Ybulkczfc
