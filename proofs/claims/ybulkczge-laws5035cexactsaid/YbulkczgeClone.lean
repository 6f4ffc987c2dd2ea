/-
  THE COPIES: zzs5035cclone, bytes.Clone (one text), newDecrypter.
-/
import Derived.Test.YbulkczgeRows
import Derived.WalkKit
import Derived.WalkSpells
import Derived.WalkLawsBesides
import Derived.ProofKit
import Derived.OwnWalk
import Derived.Below
import Derived.Maps.AppendAt
import Derived.Deep.AppendLies
import Derived.Deep.RegionHeld3
import Derived.Deep.DrawnRows
import Derived.Deep.QuietTactic
import Derived.BigQuiet
import Derived.BigRegion
import Derived.LoopN
import Derived.Maps.RangeWalk
import Derived.Maps.OwnSet
import Derived.Maps.Ext
import Derived.Laws.Pointers
namespace Go.Proofs.Ybulkczge
open Go.RowKit Go.Lib
attribute [local go_sem ↓] Go.wp_at_zero Go.wp_at_succ

/-- hidden from the walk -/
def Hid (p : Prop) : Prop := p
theorem setCell_drewN (w : World) (n : Nat) (a : Addr) (v : Value) : (w.drewN n).setCell a v = (w.setCell a v).drewN n := rfl
theorem alloc_drewN (w : World) (n : Nat) (o : Obj) : (w.drewN n).alloc o = (w.alloc o).drewN n := rfl
theorem lt_of_block {w : World} {i : Nat} {o : Obj} (h : w.heap[i]? = some o) : i < w.heap.size := (Array.getElem?_eq_some_iff.1 h).1
theorem lt_of_cell {w : World} {a : Addr} {v : Value} (h : w.cell? a = some v) : a.block < w.heap.size := by
  unfold World.cell? at h
  cases hb : w.heap[a.block]? with
  | none => simp [hb] at h
  | some o => exact lt_of_block hb
theorem info5 : (Yba.prog.info? 5).map (fun i => (i.zero, i.size, i.bytes)) = some (some (.int .u8 0), 1, 1) := by kernel_rfl

/-- the n bytes z as cells -/
def cellsOf (n : Nat) (z : Nat → Int) : List Value := (List.range n).map fun k => .int .u8 (z k)
/-- v is a copy, in memory of its own, of the n bytes z -/
structure Copy (w w' : World) (n : Nat) (z : Nat → Int) (g cap : Nat) : Prop where
  ge : w.heap.size ≤ g
  lt : g < w'.heap.size
  cs : ∀ k, k < n → w'.cell? ⟨g, k, none⟩ = some (.int .u8 (z k))
  fz : ∀ k, w'.frozen? ⟨g, k, none⟩ = false
  bel : Below w.heap.size w w'
theorem Copy.mk' {w w' : World} {n : Nat} {z : Nat → Int} {v : Value} (h : w'.ownsRow w.heap.size 5 1 v n (cellsOf n z)) (hn : v ≠ .slice none 0 0) (hb : Below w.heap.size w w') :
    ∃ g cap, v = .slice (some ⟨g, 0, none⟩) n cap ∧ Copy w w' n z g cap := by
  obtain ⟨hl, h⟩ := h
  rcases h with ⟨h1, _⟩ | ⟨g, cap, cur, rfl, hg, hgb, hnc, hcm, hsz, ht⟩
  · exact absurd h1 hn
  refine ⟨g, cap, rfl, hg, lt_of_block hgb, fun k hk => ?_, fun k => ?_, hb⟩
  · have e : (cur.toList.take (n * 1))[k]? = some (Value.int .u8 (z k)) := by rw [ht]; simp [cellsOf, hk]
    rw [List.getElem?_take_of_lt (by omega)] at e
    simpa [World.cell?, hgb] using e
  · simp [World.frozen?, hgb]

theorem cellsOf_news {w : World} {a : Addr} {n : Nat} {z : Nat → Int} (A : ∀ i, i < n → w.cell? (a.add i) = some (.int .u8 (z i))) (o : Obj) : ∀ j u, (cellsOf n z)[j]? = some u → (w.alloc o).cell? (a.add j) = some u := fun j u hj => by
  by_cases hjn : j < n
  · have e : (cellsOf n z)[j]? = some (.int .u8 (z j)) := by simp [cellsOf, hjn]
    rw [← hj, e, ← A j hjn]
    exact World.cell?_of_block ((MapKept.heap_alloc w o).2 _ (lt_of_cell (A j hjn)))
  · have e : (cellsOf n z)[j]? = none := by simp [cellsOf]; omega
    rw [e] at hj
    cases hj
theorem cellsOf_one (n : Nat) (z : Nat → Int) : ∀ u ∈ cellsOf n z, u.oneCell' = true := fun u hu => by
  simp only [cellsOf, List.mem_map] at hu
  obtain ⟨_, _, rfl⟩ := hu
  rfl
/-- what the append behind the empty slice leaves -/
theorem Copy.behind {w w1 : World} {o : Obj} {n : Nat} {z : Nat → Int} {v : Value} (hown : w1.ownsRow w.heap.size 5 1 v (0 + n) ([] ++ cellsOf n z)) (hgrow : (w.alloc o).grownBy w1 (some w.heap.size)) (hnil : v ≠ .slice none 0 0) :
    ∃ g cap, v = .slice (some ⟨g, 0, none⟩) n cap ∧ Copy w w1 n z g cap := by
  rw [Nat.zero_add, List.nil_append] at hown
  exact Copy.mk' hown hnil (((Below.refl _ w).alloc (Nat.le_refl _) o).grown hgrow (by simp) (fun k hk => by cases hk; exact Nat.le_refl _))

set_option maxHeartbeats 2000000 in
set_option maxRecDepth 100000 in
theorem clone5_at (a : Addr) (n c : Nat) (z : Nat → Int) (w : World) (hbig : n ≤ 4096) (hc : ∀ i, i < n → w.cell? (a.add i) = some (.int .u8 (z i))) :
    Calls Yba.prog 5 #[.slice (some a) n c] w fun e w' => ∃ g cap, e = .returned (.slice (some ⟨g, 0, none⟩) n cap) ∧ Copy w w' n z g cap := by
  obtain ⟨i0, hi, hz0, hz1, hz2⟩ := info_parts info5
  have q22 := fun (w : World) (a : Option Addr) (n c n' c' : Nat) => Lib.run_eql_slice_nil w 22 5 a n c n' c' Yba.underlying22
  have news := fun o => cellsOf_news hc o
  clear hc
  go_enter Yba.func5, Yba.ntmps5
  go_wp2_with (at_builtin; refine wpList_append_own _ rfl _ _ 22 rfl w.heap.size 5 i0 (.int .u8 0) 1 1 Yba.underlying22 hi hz0 hz1 hz2 rfl (by decide) _ 0 [] rfl (World.ownsRow_made w #[] 0 (Nat.le_refl _) (Nat.zero_le _) rfl) a n c (cellsOf n z) rfl (by simp [cellsOf]) (news _) (cellsOf_one n z) (by unfold maxLen; omega) (by omega) (by simp) ?_; intro v w1 hown hgrow hnil)
  go_ret
  obtain ⟨g, cap, rfl, hC⟩ := Copy.behind hown hgrow (fun e => by have h : Value.slice (some ⟨w.heap.size, 0, none⟩) 0 0 = .slice none 0 0 := (hnil.1 e).1; cases h)
  exact ⟨g, cap, rfl, hC⟩
set_option maxHeartbeats 2000000 in
set_option maxRecDepth 100000 in
theorem clone9_at (a : Addr) (n c : Nat) (z : Nat → Int) (w : World) (hbig : n ≤ 4096) (hc : ∀ i, i < n → w.cell? (a.add i) = some (.int .u8 (z i))) :
    Calls Yba.prog 9 #[.slice (some a) n c] w fun e w' => ∃ g cap, e = .returned (.slice (some ⟨g, 0, none⟩) n cap) ∧ Copy w w' n z g cap := by
  obtain ⟨i0, hi, hz0, hz1, hz2⟩ := info_parts info5
  have q22 := fun (w : World) (a : Option Addr) (n c n' c' : Nat) => Lib.run_eql_slice_nil w 22 5 a n c n' c' Yba.underlying22
  have news := fun o => cellsOf_news hc o
  clear hc
  go_enter Yba.func9, Yba.ntmps9
  go_wp2_with (at_builtin; refine wpList_append_own _ rfl _ _ 22 rfl w.heap.size 5 i0 (.int .u8 0) 1 1 Yba.underlying22 hi hz0 hz1 hz2 rfl (by decide) _ 0 [] rfl (World.ownsRow_made w #[] 0 (Nat.le_refl _) (Nat.zero_le _) rfl) a n c (cellsOf n z) rfl (by simp [cellsOf]) (news _) (cellsOf_one n z) (by unfold maxLen; omega) (by omega) (by simp) ?_; intro v w1 hown hgrow hnil)
  go_ret
  obtain ⟨g, cap, rfl, hC⟩ := Copy.behind hown hgrow (fun e => by have h : Value.slice (some ⟨w.heap.size, 0, none⟩) 0 0 = .slice none 0 0 := (hnil.1 e).1; cases h)
  exact ⟨g, cap, rfl, hC⟩
theorem clone5_nil (w : World) : Calls Yba.prog 5 #[.slice none 0 0] w fun e w' => e = .returned (.slice none 0 0) ∧ w' = w := by
  have q22 := fun (w : World) (a : Option Addr) (n c n' c' : Nat) => Lib.run_eql_slice_nil w 22 5 a n c n' c' Yba.underlying22
  go_enter Yba.func5, Yba.ntmps5
  go_wp2
  go_ret
  exact ⟨rfl, rfl⟩
theorem clone9_nil (w : World) : Calls Yba.prog 9 #[.slice none 0 0] w fun e w' => e = .returned (.slice none 0 0) ∧ w' = w := by
  have q22 := fun (w : World) (a : Option Addr) (n c n' c' : Nat) => Lib.run_eql_slice_nil w 22 5 a n c n' c' Yba.underlying22
  go_enter Yba.func9, Yba.ntmps9
  go_wp2
  go_ret
  exact ⟨rfl, rfl⟩
end Go.Proofs.Ybulkczge
