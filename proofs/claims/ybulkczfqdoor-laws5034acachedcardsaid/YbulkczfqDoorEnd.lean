/-
  THE WALK OF (*state).classEnd ON ITS CACHED ROAD.
-/
import Derived.Test.YbulkczfqDoorMap
import Derived.BigQuiet
import Derived.Deep.QuietTactic
import Derived.BigRegion
import Derived.Deep.DrawnRows
import Derived.Laws.Pointers
import Derived.LoopN
namespace Go.Proofs.YbulkczfqDoor
open Go.RowKit
attribute [local go_sem ↓] Go.wp_at_zero Go.wp_at_succ
theorem setCell_drewN (w : World) (n : Nat) (a : Addr) (v : Value) : (w.drewN n).setCell a v = (w.setCell a v).drewN n := rfl
theorem alloc_drewN (w : World) (n : Nat) (o : Obj) : (w.drewN n).alloc o = (w.alloc o).drewN n := rfl
attribute [local go_sem] setCell_drewN alloc_drewN
theorem lt_of_block {w : World} {i : Nat} {o : Obj} (h : w.heap[i]? = some o) : i < w.heap.size := (Array.getElem?_eq_some_iff.1 h).1
theorem lt_of_cell {w : World} {a : Addr} {v : Value} (h : w.cell? a = some v) : a.block < w.heap.size := by
  unfold World.cell? at h
  cases hb : w.heap[a.block]? with
  | none => simp [hb] at h
  | some o => exact lt_of_block hb
set_option maxHeartbeats 1000000 in
set_option maxRecDepth 100000 in
theorem classEnd_hit (sb p lb eb mb : Nat) (at_ : Int) (closed : Bool) (len i : Nat) (e f n : Int) (es : List MapEntry) (bo clock : Nat) (w : World) (hi : i < len)
    (s4 : w.cell? ⟨sb, 4, none⟩ = some (.map (some mb))) (s12 : w.cell? ⟨sb, 12, none⟩ = some (.bool closed)) (l1 : w.cell? ⟨lb, 1, none⟩ = some (.slice (some ⟨eb, 0, none⟩) len len))
    (c0 : w.cell? ⟨eb, i * 3, none⟩ = some (.int .i64 e)) (c1 : w.cell? ⟨eb, i * 3 + 1, none⟩ = some (.int .i64 f)) (c2 : w.cell? ⟨eb, i * 3 + 1 + 1, none⟩ = some (.int .i64 n))
    (hm : w.heap[mb]? = some (.map ⟨⟨K p at_ closed, .pointer (some ⟨lb, 0, none⟩), bo⟩ :: es⟩ clock)) :
    Calls Ybad.prog 4 #[.pointer (some ⟨sb, 0, none⟩), .pointer (some ⟨p, 0, none⟩), .int .i64 at_, .int .i64 i] w fun e' w' => e' = .returned (.tuple #[.agg #[.int .i64 e, .pointer (some ⟨lb, 2, none⟩), .int .i64 f, .int .i64 n], .int .i64 1]) ∧ Below w.heap.size w w' := by
  have hsb : sb < w.heap.size := lt_of_cell s4
  have hlb : lb < w.heap.size := lt_of_cell l1
  have heb : eb < w.heap.size := lt_of_cell c0
  have hlook : ∀ o1 o2 m, (Instr.lookup 53 (.map (some mb)) (.agg #[.pointer (some ⟨p, 0, none⟩), .int .i64 at_, .bool closed]) false).run Ybad.prog (((w.alloc o1).alloc o2).drewN m) = .ok (.pointer (some ⟨lb, 0, none⟩)) (((w.alloc o1).alloc o2).drewN m) := by
    intro o1 o2 m
    refine lookHit mb p at_ closed _ bo clock es _ ?_
    show ((w.alloc o1).alloc o2).heap[mb]? = _
    have hmb := lt_of_block hm
    rw [(MapKept.heap_alloc _ o2).2 mb (by simp; omega), (MapKept.heap_alloc w o1).2 mb hmb]
    exact hm
  clear hm
  go_enter Ybad.func4, Ybad.ntmps4
  go_wp2
  go_quiet (fail)
  clear hlook
  go_wp2
  refine wp_loop_rounds 1 ?_
  rw [rounds_succ]
  go_wp2
  go_region
  go_wp2
  refine bodyPost_ret (v := .tuple #[.agg #[.int .i64 e, .pointer (some ⟨lb, 2, none⟩), .int .i64 f, .int .i64 n], .int .i64 1]) ?_ rfl ⟨rfl, ?_⟩
  · simp [results, Ybad.results4, go_sem]
  · exact below_drewN ((((Below.refl _ _).alloc (Nat.le_refl _) _).alloc (by simp) _).alloc (by simp; omega) _) _
set_option maxHeartbeats 1000000 in
set_option maxRecDepth 100000 in
theorem classEnd_miss (sb p lb eb mb : Nat) (at_ : Int) (closed : Bool) (len i : Nat) (res : Int) (es : List MapEntry) (bo clock : Nat) (w : World) (hi : len ≤ i)
    (s4 : w.cell? ⟨sb, 4, none⟩ = some (.map (some mb))) (s12 : w.cell? ⟨sb, 12, none⟩ = some (.bool closed)) (l1 : w.cell? ⟨lb, 1, none⟩ = some (.slice (some ⟨eb, 0, none⟩) len len))
    (l12 : w.cell? ⟨lb, 12, none⟩ = some (.bool true)) (l13 : w.cell? ⟨lb, 13, none⟩ = some (.int .i64 res))
    (hm : w.heap[mb]? = some (.map ⟨⟨K p at_ closed, .pointer (some ⟨lb, 0, none⟩), bo⟩ :: es⟩ clock)) :
    Calls Ybad.prog 4 #[.pointer (some ⟨sb, 0, none⟩), .pointer (some ⟨p, 0, none⟩), .int .i64 at_, .int .i64 i] w fun e' w' => e' = .returned (.tuple #[.agg #[.int .i64 0, .pointer none, .int .i64 0, .int .i64 0], .int .i64 res]) ∧ Below w.heap.size w w' := by
  have hsb : sb < w.heap.size := lt_of_cell s4
  have hlb : lb < w.heap.size := lt_of_cell l1
  have hlook : ∀ o1 o2 m, (Instr.lookup 53 (.map (some mb)) (.agg #[.pointer (some ⟨p, 0, none⟩), .int .i64 at_, .bool closed]) false).run Ybad.prog (((w.alloc o1).alloc o2).drewN m) = .ok (.pointer (some ⟨lb, 0, none⟩)) (((w.alloc o1).alloc o2).drewN m) := by
    intro o1 o2 m
    refine lookHit mb p at_ closed _ bo clock es _ ?_
    show ((w.alloc o1).alloc o2).heap[mb]? = _
    have hmb := lt_of_block hm
    rw [(MapKept.heap_alloc _ o2).2 mb (by simp; omega), (MapKept.heap_alloc w o1).2 mb hmb]
    exact hm
  clear hm
  go_enter Ybad.func4, Ybad.ntmps4
  go_wp2
  go_quiet (fail)
  clear hlook
  go_wp2
  refine wp_loop_rounds 1 ?_
  rw [rounds_succ]
  go_wp2
  go_region
  go_wp2
  refine bodyPost_ret (v := .tuple #[.agg #[.int .i64 0, .pointer none, .int .i64 0, .int .i64 0], .int .i64 res]) ?_ rfl ⟨rfl, ?_⟩
  · simp [results, Ybad.results4, go_sem]
  · exact below_drewN (((Below.refl _ _).alloc (Nat.le_refl _) _).alloc (by simp) _) _
end Go.Proofs.YbulkczfqDoor
