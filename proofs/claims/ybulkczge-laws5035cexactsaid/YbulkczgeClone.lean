/-
  THE COPIES: zzs5035cclone, bytes.Clone (one text), newDecrypter.
-/
import Derived.Test.YbulkczgeRows
import Derived.WalkKit
import Derived.WalkSpells
import Derived.WalkLawsBesides
import Derived.ProofKit
import Derived.OwnWalk
import Derived.Below
import Derived.Maps.AppendAt
import Derived.Deep.AppendLies
import Derived.Deep.RegionHeld3
import Derived.Deep.DrawnRows
import Derived.Deep.QuietTactic
import Derived.BigQuiet
import Derived.BigRegion
import Derived.LoopN
import Derived.Maps.RangeWalk
import Derived.Maps.OwnSet
import Derived.Maps.Ext
import Derived.Laws.Pointers
namespace Go.Proofs.Ybulkczge
open Go.RowKit Go.Lib
attribute [local go_sem ↓] Go.wp_at_zero Go.wp_at_succ

/-- hidden from the walk -/
def Hid (p : Prop) : Prop := p
theorem setCell_drewN (w : World) (n : Nat) (a : Addr) (v : Value) : (w.drewN n).setCell a v = (w.setCell a v).drewN n := rfl
theorem alloc_drewN (w : World) (n : Nat) (o : Obj) : (w.drewN n).alloc o = (w.alloc o).drewN n := rfl
theorem lt_of_block {w : World} {i : Nat} {o : Obj} (h : w.heap[i]? = some o) : i < w.heap.size := (Array.getElem?_eq_some_iff.1 h).1
theorem lt_of_cell {w : World} {a : Addr} {v : Value} (h : w.cell? a = some v) : a.block < w.heap.size := by
  unfold World.cell? at h
  cases hb : w.heap[a.block]? with
  | none => simp [hb] at h
  | some o => exact lt_of_block hb
theorem info5 : (Yba.prog.info? 5).map (fun i => (i.zero, i.size, i.bytes)) = some (some (.int .u8 0), 1, 1) := by kernel_rfl

/-- v is a copy, in memory of its own, of the n bytes z -/
structure Copy (w w' : World) (n : Nat) (z : Nat → Int) (g cap : Nat) : Prop where
  ge : w.heap.size ≤ g
  lt : g < w'.heap.size
  cs : ∀ k, k < n → w'.cell? ⟨g, k, none⟩ = some (.int .u8 (z k))
  fz : ∀ k, w'.frozen? ⟨g, k, none⟩ = false
  bel : Below w.heap.size w w'
theorem Copy.mk' {w w' : World} {n : Nat} {z : Nat → Int} {v : Value} (h : w'.ownsRow w.heap.size 5 1 v n ((List.range n).map fun k => Value.int .u8 (z k))) (hn : v ≠ .slice none 0 0) (hb : Below w.heap.size w w') :
    ∃ g cap, v = .slice (some ⟨g, 0, none⟩) n cap ∧ Copy w w' n z g cap := by
  obtain ⟨hl, h⟩ := h
  rcases h with ⟨h1, _⟩ | ⟨g, cap, cur, rfl, hg, hgb, hnc, hcm, hsz, ht⟩
  · exact absurd h1 hn
  refine ⟨g, cap, rfl, hg, lt_of_block hgb, fun k hk => ?_, fun k => ?_, hb⟩
  · have e : (cur.toList.take (n * 1))[k]? = some (Value.int .u8 (z k)) := by rw [ht]; simp [hk]
    rw [List.getElem?_take_of_lt (by omega)] at e
    simpa [World.cell?, hgb] using e
  · simp [World.frozen?, hgb]

set_option maxHeartbeats 2000000 in
set_option maxRecDepth 100000 in
theorem clone5_at (a : Addr) (n c : Nat) (z : Nat → Int) (w : World) (hbig : n ≤ 4096) (hc : ∀ i, i < n → w.cell? (a.add i) = some (.int .u8 (z i))) :
    Calls Yba.prog 5 #[.slice (some a) n c] w fun e w' => ∃ g cap, e = .returned (.slice (some ⟨g, 0, none⟩) n cap) ∧ Copy w w' n z g cap := by
  obtain ⟨i0, hi, hz0, hz1, hz2⟩ := info_parts info5
  have q22 : ∀ (w : World) (a : Option Addr) (n c n' c' : Nat), (binOp .eql 22 (.slice a n c) (.slice none n' c')).run Yba.prog w = .ok (.bool a.isNone) w := fun w a n c n' c' => Lib.run_eql_slice_nil w _ _ a n c n' c' Yba.underlying22
  have A : Hid (∀ i, i < n → w.cell? (a.add i) = some (.int .u8 (z i))) := hc
  clear hc
  go_enter Yba.func5, Yba.ntmps5
  go_wp2_with (at_builtin; refine wpList_append_own _ rfl _ _ 22 rfl w.heap.size 5 i0 (.int .u8 0) 1 1 Yba.underlying22 hi hz0 hz1 hz2 rfl (by decide) _ _ _ rfl (World.ownsRow_made w #[] 0 (Nat.le_refl _) (Nat.zero_le _) rfl) a n c ((List.range n).map fun k => Value.int .u8 (z k)) rfl ?qc1 ?qc2 ?qc3 ?qc4 ?qc5 ?qc6 ?_)
  case qc1 => simp
  case qc2 =>
    intro j u hj
    have hjn : j < n := by
      have := (List.getElem?_eq_some_iff.1 hj).1
      simpa using this
    refine Lib.cell?_alloc_some _ ?_
    rw [A j hjn]
    simpa [hjn] using hj
  case qc3 => intro u hu; obtain ⟨x, _, rfl⟩ := List.mem_map.1 hu; rfl
  case qc4 => unfold maxLen; omega
  case qc5 => omega
  case qc6 => simp
  intro v' w1 hown hgrow hnil
  go_wp2
  go_ret
  have hB : Below w.heap.size w w1 := ((Below.refl _ w).alloc (Nat.le_refl _) _).grown hgrow (by simp) (by intro k hk; simp [Value.ownBlock] at hk; omega)
  obtain ⟨g, cap, rfl, hC⟩ := Copy.mk' (by simpa using hown) (by first | exact hnil | (intro e; exact absurd (hnil.1 e).1 (by simp))) hB
  exact ⟨g, cap, rfl, hC⟩
set_option maxHeartbeats 2000000 in
set_option maxRecDepth 100000 in
theorem clone9_at (a : Addr) (n c : Nat) (z : Nat → Int) (w : World) (hbig : n ≤ 4096) (hc : ∀ i, i < n → w.cell? (a.add i) = some (.int .u8 (z i))) :
    Calls Yba.prog 9 #[.slice (some a) n c] w fun e w' => ∃ g cap, e = .returned (.slice (some ⟨g, 0, none⟩) n cap) ∧ Copy w w' n z g cap := by
  obtain ⟨i0, hi, hz0, hz1, hz2⟩ := info_parts info5
  have q22 : ∀ (w : World) (a : Option Addr) (n c n' c' : Nat), (binOp .eql 22 (.slice a n c) (.slice none n' c')).run Yba.prog w = .ok (.bool a.isNone) w := fun w a n c n' c' => Lib.run_eql_slice_nil w _ _ a n c n' c' Yba.underlying22
  have A : Hid (∀ i, i < n → w.cell? (a.add i) = some (.int .u8 (z i))) := hc
  clear hc
  go_enter Yba.func9, Yba.ntmps9
  go_wp2_with (at_builtin; refine wpList_append_own _ rfl _ _ 22 rfl w.heap.size 5 i0 (.int .u8 0) 1 1 Yba.underlying22 hi hz0 hz1 hz2 rfl (by decide) _ _ _ rfl (World.ownsRow_made w #[] 0 (Nat.le_refl _) (Nat.zero_le _) rfl) a n c ((List.range n).map fun k => Value.int .u8 (z k)) rfl ?qc1 ?qc2 ?qc3 ?qc4 ?qc5 ?qc6 ?_)
  case qc1 => simp
  case qc2 =>
    intro j u hj
    have hjn : j < n := by
      have := (List.getElem?_eq_some_iff.1 hj).1
      simpa using this
    refine Lib.cell?_alloc_some _ ?_
    rw [A j hjn]
    simpa [hjn] using hj
  case qc3 => intro u hu; obtain ⟨x, _, rfl⟩ := List.mem_map.1 hu; rfl
  case qc4 => unfold maxLen; omega
  case qc5 => omega
  case qc6 => simp
  intro v' w1 hown hgrow hnil
  go_wp2
  go_ret
  have hB : Below w.heap.size w w1 := ((Below.refl _ w).alloc (Nat.le_refl _) _).grown hgrow (by simp) (by intro k hk; simp [Value.ownBlock] at hk; omega)
  obtain ⟨g, cap, rfl, hC⟩ := Copy.mk' (by simpa using hown) (by first | exact hnil | (intro e; exact absurd (hnil.1 e).1 (by simp))) hB
  exact ⟨g, cap, rfl, hC⟩
theorem clone5_nil (w : World) : Calls Yba.prog 5 #[.slice none 0 0] w fun e w' => e = .returned (.slice none 0 0) ∧ w' = w := by
  have q22 : ∀ (w : World) (a : Option Addr) (n c n' c' : Nat), (binOp .eql 22 (.slice a n c) (.slice none n' c')).run Yba.prog w = .ok (.bool a.isNone) w := fun w a n c n' c' => Lib.run_eql_slice_nil w _ _ a n c n' c' Yba.underlying22
  go_enter Yba.func5, Yba.ntmps5
  go_wp2
  go_ret
  exact ⟨rfl, rfl⟩
theorem clone9_nil (w : World) : Calls Yba.prog 9 #[.slice none 0 0] w fun e w' => e = .returned (.slice none 0 0) ∧ w' = w := by
  have q22 : ∀ (w : World) (a : Option Addr) (n c n' c' : Nat), (binOp .eql 22 (.slice a n c) (.slice none n' c')).run Yba.prog w = .ok (.bool a.isNone) w := fun w a n c n' c' => Lib.run_eql_slice_nil w _ _ a n c n' c' Yba.underlying22
  go_enter Yba.func9, Yba.ntmps9
  go_wp2
  go_ret
  exact ⟨rfl, rfl⟩
end Go.Proofs.Ybulkczge
