/-
  PARTS FOR LawS5049BOrder: the pick, the loop that makes the nodes, packages.
-/
import Derived.Test.YbulkcznsRows
import Derived.WalkKit
import Derived.WalkSpells
import Derived.WalkLawsBesides
import Derived.ProofKit
import Derived.OwnWalk
import Derived.Below
import Derived.Maps.AppendAt
import Derived.Deep.AppendLies
import Derived.Deep.RegionHeld3
import Derived.Deep.DrawnRows
import Derived.Deep.QuietTactic
import Derived.BigQuiet
import Derived.BigRegion
import Derived.LoopN
import Derived.Maps.RangeWalk
import Derived.Maps.OwnSet
import Derived.Maps.Own
import Derived.Maps.Ext
import Derived.Laws.Pointers
namespace Go.Proofs.Ybulkczns
open Go.RowKit Go.Lib

/-- hidden from the walk -/
def Hid (p : Prop) : Prop := p
theorem lt_of_block {w : World} {i : Nat} {o : Obj} (h : w.heap[i]? = some o) : i < w.heap.size := (Array.getElem?_eq_some_iff.1 h).1
theorem lt_of_cell {w : World} {a : Addr} {v : Value} (h : w.cell? a = some v) : a.block < w.heap.size := by
  unfold World.cell? at h
  cases hb : w.heap[a.block]? with
  | none => simp [hb] at h
  | some o => exact lt_of_block hb
theorem info23 : (Yba.prog.info? 23).map (fun i => (i.zero, i.size, i.bytes)) = some (some (.pointer none), 1, 8) := by kernel_rfl
theorem info36 : (Yba.prog.info? 36).map (fun i => (i.zero, i.size, i.bytes)) = some (some (.pointer none), 1, 8) := by kernel_rfl

/-- the package that a byte picks -/
def pk (b : Nat) (p : Int) : Option Addr := if p % 4 = 3 then none else if p % 4 = 0 then some ⟨b, 0, none⟩ else if p % 4 = 1 then some ⟨b + 1, 0, none⟩ else some ⟨b + 1 + 1, 0, none⟩
/-- the pool -/
structure Pool (w : World) (b : Nat) : Prop where
  p0 : w.cell? ⟨b + 1 + 1 + 1, 0, none⟩ = some (.pointer (some ⟨b, 0, none⟩))
  p1 : w.cell? ⟨b + 1 + 1 + 1, 1, none⟩ = some (.pointer (some ⟨b + 1, 0, none⟩))
  p2 : w.cell? ⟨b + 1 + 1 + 1, 2, none⟩ = some (.pointer (some ⟨b + 1 + 1, 0, none⟩))
  s0 : w.cell? ⟨b, 0, none⟩ = some (.string ⟨#[97]⟩)
  s1 : w.cell? ⟨b + 1, 0, none⟩ = some (.string ⟨#[98]⟩)
  s2 : w.cell? ⟨b + 1 + 1, 0, none⟩ = some (.string ⟨#[99]⟩)
theorem Pool.far {w w' : World} {b : Nat} (h : Pool w b) (hc : ∀ i j, i < b + 4 → w'.cell? ⟨i, j, none⟩ = w.cell? ⟨i, j, none⟩) : Pool w' b :=
  ⟨(hc _ _ (by omega)).trans h.p0, (hc _ _ (by omega)).trans h.p1, (hc _ _ (by omega)).trans h.p2, (hc _ _ (by omega)).trans h.s0, (hc _ _ (by omega)).trans h.s1, (hc _ _ (by omega)).trans h.s2⟩

theorem pick (b : Nat) (p : Int) (w : World) (P : Pool w b) (h0 : 0 ≤ p) :
    Calls Yba.prog 4 #[.slice (some ⟨b + 1 + 1 + 1, 0, none⟩) 3 3, .int .u8 p] w fun e w' => e = .returned (.pointer (pk b p)) ∧ w' = w := by
  obtain ⟨p0, p1, p2, _, _, _⟩ := P
  obtain hm | hm | hm | hm : p % 4 = 0 ∨ p % 4 = 1 ∨ p % 4 = 2 ∨ p % 4 = 3 := by omega
  all_goals
    have hpk : pk b p = pk b p := rfl
    conv at hpk => rhs; unfold pk; simp [hm]
    rw [hpk]
    clear hpk
    have hm' : p.tmod 4 = p % 4 := Int.tmod_eq_emod_of_nonneg h0
    rw [hm] at hm'
    go_enter Yba.func4, Yba.ntmps4
    go_wp2
    go_ret
    exact ⟨rfl, rfl⟩

/-- the first k nodes -/
def Nodes (w : World) (N k b : Nat) (z : Nat → Int) : Prop :=
  ∀ j, j < k → ∃ c, N < c ∧ w.cell? ⟨N, j, none⟩ = some (.pointer (some ⟨c, 0, none⟩)) ∧ w.cell? ⟨c, 0, none⟩ = some (.pointer (pk b (z j))) ∧ w.cell? ⟨c, 2, none⟩ = some (.int .i64 j)
/-- the packages of the first k picks -/
def pks (b : Nat) (z : Nat → Int) (k : Nat) : List Value := (List.range k).map fun j => .pointer (pk b (z j))
theorem pks_succ (b : Nat) (z : Nat → Int) (k : Nat) : pks b z (k + 1) = pks b z k ++ [.pointer (pk b (z k))] := by simp [pks, List.range_succ]
theorem row_ge {base : Nat} {e : TypeId} {size : Nat} {v : Value} {m : Nat} {xs : List Value} {w : World} (hr : w.ownsRow base e size v m xs) {g : Nat} (hv : v.ownBlock = some g) : base ≤ g ∧ g < w.heap.size := by
  obtain ⟨_, h⟩ := hr
  rcases h with ⟨rfl, _⟩ | ⟨g', cap, cur, rfl, hb, hg, _⟩
  · cases hv
  · cases hv
    exact ⟨hb, lt_of_block hg⟩
set_option maxHeartbeats 400000 in
set_option maxRecDepth 100000 in
theorem packages (N len b : Nat) (z : Nat → Int) (w : World) (hN : Nodes w N len b z) (hlen : len ≤ 1024) :
    Calls Yba.prog 5 #[.slice (some ⟨N, 0, none⟩) len len] w fun e w' => ∃ v, e = .returned v ∧ w'.ownsRow w.heap.size 23 1 v len (pks b z len) ∧ Below w.heap.size w w' ∧ (len = 0 → v = .slice none 0 0) := by
  obtain ⟨i0, hi, hz0, hz1, hz2⟩ := info_parts info23
  have HN : Hid (Nodes w N len b z) := hN
  clear hN
  go_enter Yba.func5, Yba.ntmps5
  go_wp2_with fail
  go_loopw [3, 8] (fun v i wr => ∃ k : Nat, k ≤ len ∧ i = .int .i64 k ∧ wr.ownsRow w.heap.size 23 1 v k (pks b z k) ∧ Below w.heap.size w wr ∧ (k = 0 → v = .slice none 0 0)) (fun _ i _ => len - (intOf i).toNat)
  case atStart => exact ⟨0, by omega, rfl, ⟨rfl, Or.inl ⟨rfl, rfl⟩⟩, Below.refl _ _, fun _ => rfl⟩
  case round =>
    obtain ⟨k, hk, rfl, row, bel, hnil⟩ := hrel
    by_cases hlt : k < len
    · obtain ⟨c, hNc, c0, c1, _⟩ := HN k hlt
      have d0 := (bel.cell (p := ⟨N, k, none⟩) (lt_of_cell c0)).trans c0
      have d1 := (bel.cell (p := ⟨c, 0, none⟩) (lt_of_cell c1)).trans c1
      have hs := bel.size
      have HB : Hid (Below w.heap.size w wr) := bel
      have HR : Hid (wr.ownsRow w.heap.size 23 1 u3 k (pks b z k)) := row
      clear bel row hnil c0 c1
      go_wp2_with (at_builtin; refine wpList_append_lies _ rfl _ _ 34 rfl w.heap.size 23 i0 (.pointer none) 1 8 Yba.underlying34 hi hz0 hz1 hz2 rfl (by decide) u3 k (pks b z k) rfl (World.ownsRow.alloc HR _) ⟨wr.heap.size, 0, none⟩ 1 1 [.pointer (pk b (z k))] rfl rfl (cell_one_new _ _ _) (by intro u hu; simp at hu; subst hu; rfl) (by decide) (by unfold maxLen; omega) (by omega) (by simp; omega) _ rfl ?_; intro g gc w2 hown2 hgrow2 hat2 hlt2)
      go_roundw
      case rel =>
        refine ⟨k + 1, by omega, by go_num, ?_, ?_, fun h => by omega⟩
        · rw [pks_succ]; exact hown2
        · exact (Below.alloc HB hs _).grown hgrow2 (by simp; omega) (fun g hg => (row_ge HR hg).1)
      case measure => simp [intOf]; omega
    · have hkl : k = len := by omega
      subst hkl
      go_wp2
      go_ret
      exact ⟨_, rfl, row, bel, hnil⟩
end Go.Proofs.Ybulkczns
