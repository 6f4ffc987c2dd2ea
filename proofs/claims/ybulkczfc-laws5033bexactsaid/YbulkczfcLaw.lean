/-
  THE WALK OF LawS5033BExact, out of the contracts of addMulWord and of the model.
-/
import Derived.Test.YbulkczfcModel
import Derived.BigRegion
namespace Go.Proofs.Ybulkczfc
open Go.RowKit Go.Shelf
attribute [local go_sem ↓] Go.wp_at_zero Go.wp_at_succ
attribute [local go_sem] setCell_drewN alloc_drewN
theorem eq24 (a b c d e : Int) (w : World) : (Op.equalIn 10000 24 (.agg #[.int .u64 a, .int .u64 b, .int .u64 c, .int .u64 d, .int .u64 e]) (.agg #[.int .u64 a, .int .u64 b, .int .u64 c, .int .u64 d, .int .u64 e])).run Yba.prog w = .ok true w := by
  have u3 := Yba.underlying22
  have a3 := Yba.isAgg22
  have z3 := Yba.sizeOf22
  rw [show (10000 : Nat) = 9999 + 1 from rfl, Op.equalIn]
  simp only [Sem.run_bind, run_underlying Yba.underlying24, Result.andThen_ok]
  simp only [Std.Legacy.Range.forIn_eq_forIn_range', Std.Legacy.Range.size, Nat.sub_zero, Nat.add_sub_cancel, Nat.div_one, List.range'_succ, List.range'_zero, List.forIn_cons, List.forIn_nil]
  go_simp
theorem eq23 (a b c d e f : Int) (w : World) : (Op.equalIn 10000 23 (.agg #[.int .u64 a, .int .u64 b, .int .u64 c, .int .u64 d, .int .u64 e, .int .u64 f]) (.agg #[.int .u64 a, .int .u64 b, .int .u64 c, .int .u64 d, .int .u64 e, .int .u64 f])).run Yba.prog w = .ok true w := by
  have u3 := Yba.underlying22
  have a3 := Yba.isAgg22
  have z3 := Yba.sizeOf22
  rw [show (10000 : Nat) = 9999 + 1 from rfl, Op.equalIn]
  simp only [Sem.run_bind, run_underlying Yba.underlying23, Result.andThen_ok]
  simp only [Std.Legacy.Range.forIn_eq_forIn_range', Std.Legacy.Range.size, Nat.sub_zero, Nat.add_sub_cancel, Nat.div_one, List.range'_succ, List.range'_zero, List.forIn_cons, List.forIn_nil]
  go_simp
attribute [local go_sem] eq24 eq23
theorem law (t x : Nat → Int) (W : Int) (w : World)
   (bx0 : ∀ j, 0 ≤ x j ∧ x j < 18446744073709551616) (bt0 : ∀ j, 0 ≤ t j ∧ t j < 18446744073709551616) (bW : 0 ≤ W ∧ W < 18446744073709551616) :
    Calls Yba.prog 3 #[.agg #[.int .u64 (t 0), .int .u64 (t 1), .int .u64 (t 2), .int .u64 (t 3), .int .u64 (t 4), .int .u64 (t 5)], .agg #[.int .u64 (x 0), .int .u64 (x 1), .int .u64 (x 2), .int .u64 (x 3), .int .u64 (x 4)], .int .u64 W] w fun e w' =>
      e = .returned (.bool true) ∧ Below w.heap.size w w' := by
  go_enter Yba.func3, Yba.ntmps3
  go_wp2_with fail
  refine (addMul (w.heap.size + 1 + 1) (w.heap.size + 1 + 1 + 1) t x W (by omega) _ ?_ ?_ ?_ bx0 bt0 bW).mono ?_
  · intro j hj
    have : j = 0 ∨ j = 1 ∨ j = 2 ∨ j = 3 ∨ j = 4 ∨ j = 5 := by omega
    rcases this with rfl | rfl | rfl | rfl | rfl | rfl <;> simp [go_sem]
  · intro j hj
    simp [go_sem]
  · intro j hj
    have : j = 0 ∨ j = 1 ∨ j = 2 ∨ j = 3 ∨ j = 4 := by omega
    rcases this with rfl | rfl | rfl | rfl | rfl <;> simp [go_sem]
  rintro e w' ⟨rfl, n, rfl⟩
  simp only [stW]
  go_wp2_with fail
  go_region_held3 (fun w' => w'.cell? ⟨w.heap.size, 0, none⟩ = some (.int .u64 (t 0)) ∧ w'.cell? ⟨w.heap.size, 1, none⟩ = some (.int .u64 (t 1))
    ∧ w'.cell? ⟨w.heap.size, 2, none⟩ = some (.int .u64 (t 2)) ∧ w'.cell? ⟨w.heap.size, 3, none⟩ = some (.int .u64 (t 3))
    ∧ w'.cell? ⟨w.heap.size, 4, none⟩ = some (.int .u64 (t 4)) ∧ w'.cell? ⟨w.heap.size, 5, none⟩ = some (.int .u64 (t 5))
    ∧ w'.cell? ⟨w.heap.size + 1, 0, none⟩ = some (.int .u64 (x 0)) ∧ w'.cell? ⟨w.heap.size + 1, 1, none⟩ = some (.int .u64 (x 1))
    ∧ w'.cell? ⟨w.heap.size + 1, 2, none⟩ = some (.int .u64 (x 2)) ∧ w'.cell? ⟨w.heap.size + 1, 3, none⟩ = some (.int .u64 (x 3))
    ∧ w'.cell? ⟨w.heap.size + 1, 4, none⟩ = some (.int .u64 (x 4))
    ∧ w'.cell? ⟨w.heap.size + 1 + 1, 0, none⟩ = some (.int .u64 (Rw t x W 0)) ∧ w'.cell? ⟨w.heap.size + 1 + 1, 1, none⟩ = some (.int .u64 (Rw t x W 1))
    ∧ w'.cell? ⟨w.heap.size + 1 + 1, 2, none⟩ = some (.int .u64 (Rw t x W 2)) ∧ w'.cell? ⟨w.heap.size + 1 + 1, 3, none⟩ = some (.int .u64 (Rw t x W 3))
    ∧ w'.cell? ⟨w.heap.size + 1 + 1, 4, none⟩ = some (.int .u64 (Rw t x W 4)) ∧ w'.cell? ⟨w.heap.size + 1 + 1, 5, none⟩ = some (.int .u64 ((t 5 + Cy t x W 5) % 18446744073709551616)))
    (simp [go_sem, World.cell?_alloc_past])
    (first | (go_at_call 6; refine (model t x W _ bx0 bt0 bW).mono ?_; rintro e w' ⟨rfl, m, c1, c2, c3, c4, c5, c6, rfl⟩))
  go_wp2
  go_ret
  refine ⟨rfl, ?_⟩
  repeat (first | exact Below.refl _ _ | apply below_drewN | refine Below.alloc ?_ (by simp; try omega) _)
end Go.Proofs.Ybulkczfc
