/-
  DERIVED: THE SHELF CONTRACTS AT THIS DUMP, IN PLAIN WORDS (tools/lay-plain.mjs out of 'YbaShelf.lean', which tools/lay-shelf.mjs wrote): THE SAME DECLARATIONS UNDER THE SAME NAMES: 'import', 'namespace', 'open', 'def', 'theorem' AND NOTHING ELSE: no command of the shelf's: FOR A HAND-IN. Each laying: the table of numbers ('.._ren') and one theorem, a field a fact of the dump's own or the kernel's comparison; each contract: ONE APPLICATION.
-/
import Derived.Shelf.Bits.Mul64
import Derived.Shelf.Spec.BitsCarry
import Derived.Test.YbulkczfcProg
namespace Go.Proofs
open Go.Shelf
def Yba.lays264_ren : Go.Shelf.Ren := ⟨fun | 264 => 7 | n => n, fun | 53 => 22 | 46 => 36 | n => n, fun | n => n⟩
theorem Yba.lays264 : Go.Proofs.Lays.n264 Yba.prog Yba.lays264_ren := {
  mixed := by kernel_rfl
  f264 := Yba.func7.trans (congrArg some (by kernel_rfl))
  t46 := Yba.underlying36
  a46 := Yba.isAgg36
  z46 := Yba.sizeOf36
  v46 := Yba.zeroValue36
  t53 := Yba.underlying22
  a53 := Yba.isAgg22
  z53 := Yba.sizeOf22
  v53 := Yba.zeroValue22 }
open Go.RowKit Go.Lib in
theorem Yba.bits_Mul64 (x y : Nat) (hx : x < 18446744073709551616) (hy : y < 18446744073709551616) (w : World) :
    Calls Yba.prog 7 #[.int .u64 x, .int .u64 y] w fun e w' => e = .returned (.tuple #[.int .u64 ((x * y / 18446744073709551616 : Nat) : Int), .int .u64 ((x * y % 18446744073709551616 : Nat) : Int)]) ∧ w' = w := Any.bits_Mul64 Yba.lays264 x y hx hy w
def Yba.lays25_ren : Go.Shelf.Ren := ⟨fun | 25 => 8 | n => n, fun | 22 => 22 | n => n, fun | n => n⟩
theorem Yba.lays25 : Go.Proofs.Lays7.n25 Yba.prog Yba.lays25_ren := {
  mixed := by kernel_rfl
  f25 := Yba.func8.trans (congrArg some (by kernel_rfl))
  t22 := Yba.underlying22
  a22 := Yba.isAgg22
  z22 := Yba.sizeOf22
  v22 := Yba.zeroValue22
  i22 := by kernel_rfl }

theorem Yba.add64 (x y c : Int) (hx : 0 ≤ x) (hy : 0 ≤ y) (hc0 : 0 ≤ c) (hc : c ≤ 1) (w : World) : (callFunc 8 #[.int .u64 x, .int .u64 y, .int .u64 c]).run Yba.prog w =
    .ok (.value (.tuple #[.int .u64 ((x + y + c) % 18446744073709551616), .int .u64 ((x + y + c) / 18446744073709551616)])) w := by
  obtain ⟨x, rfl⟩ := Int.eq_ofNat_of_zero_le hx
  obtain ⟨y, rfl⟩ := Int.eq_ofNat_of_zero_le hy
  obtain ⟨c, rfl⟩ := Int.eq_ofNat_of_zero_le hc0
  refine (Any7.bits_Add64 Yba.lays25 x y c (by omega) w).trans ?_
  congr 5 <;> omega
theorem Yba.add64_0 (x y : Int) (hx : 0 ≤ x) (hy : 0 ≤ y) (w : World) : (callFunc 8 #[.int .u64 x, .int .u64 y, .int .u64 0]).run Yba.prog w =
    .ok (.value (.tuple #[.int .u64 ((x + y) % 18446744073709551616), .int .u64 ((x + y) / 18446744073709551616)])) w := by
  simpa using Yba.add64 x y 0 hx hy (Int.le_refl 0) (by decide) w
/-- Mul64, over Int. -/
theorem Yba.mul64 (x y : Int) (hx : 0 ≤ x) (hx' : x < 18446744073709551616) (hy : 0 ≤ y) (hy' : y < 18446744073709551616) (w : World) :
    Calls Yba.prog 7 #[.int .u64 x, .int .u64 y] w fun e w' => e = .returned (.tuple #[.int .u64 (x * y / 18446744073709551616), .int .u64 (x * y % 18446744073709551616)]) ∧ w' = w := by
  obtain ⟨x, rfl⟩ := Int.eq_ofNat_of_zero_le hx
  obtain ⟨y, rfl⟩ := Int.eq_ofNat_of_zero_le hy
  refine (Yba.bits_Mul64 x y (by omega) (by omega) w).mono fun e w' h => ?_
  rw [h.1]
  refine ⟨?_, h.2⟩
  rw [← Int.natCast_mul]
  congr 4
end Go.Proofs
