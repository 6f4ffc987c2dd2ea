/-
  PARTS FOR LawS5034ACached: the loop that fills fes; the map among the blocks that the law lays; what stands behind the call.
-/
import Derived.Test.YbulkczfqDoorEnd
import Derived.OwnWalk
import Derived.Maps.Own
import Derived.Deep.RegionHeld3
namespace Go.Proofs.YbulkczfqDoor
open Go.RowKit
attribute [local go_sem ↓] Go.wp_at_zero Go.wp_at_succ
attribute [local go_sem] setCell_drewN alloc_drewN
theorem info45 : (Ybad.prog.info? 45).map (fun i => (i.zero, i.size, i.bytes)) = some (some (.agg #[.int .i64 0, .int .i64 0, .int .i64 0]), 3, 24) := by kernel_rfl
/-- the loop that fills fes -/
structure Fill (w wr : World) (len k : Nat) (z : Nat → Int) : Prop where
  pc : ∃ PC, wr.heap[w.heap.size]? = some (.cells PC 42)
  ex : ∀ j, j < len * 3 → ∃ v, wr.cell? ⟨w.heap.size + 1, j, none⟩ = some v
  fz : ∀ j, wr.frozen? ⟨w.heap.size + 1, j, none⟩ = false
  cs : ∀ q, q < k → wr.cell? ⟨w.heap.size + 1, q * 3, none⟩ = some (.int .i64 (z q)) ∧ wr.cell? ⟨w.heap.size + 1, q * 3 + 1, none⟩ = some (.int .i64 (2 * q)) ∧ wr.cell? ⟨w.heap.size + 1, q * 3 + 1 + 1, none⟩ = some (.int .i64 (q + 1))
  bel : Below w.heap.size w wr
  siz : w.heap.size + 2 ≤ wr.heap.size
theorem Fill.start {w w1 : World} {len : Nat} {z : Nat → Int} {PC : Array Value} {xs : List Value} (ho : w1.ownsRow (w.heap.size + 1) 45 3 (.slice (some ⟨w.heap.size + 1, 0, none⟩) len len) len xs) (hg : (w.alloc (.cells PC 42)).grownBy w1 none) : Fill w w1 len 0 z := by
  have hb : w1.heap[w.heap.size]? = some (.cells PC 42) := by
    rw [hg.block _ (by simp) (by simp)]
    exact (MapKept.heap_alloc w _).1
  obtain ⟨_, h⟩ := ho
  rcases h with ⟨h1, _⟩ | ⟨g, cap, cur, hv, _, hgb, _, _, hsz, _⟩
  · cases h1
  · cases hv
    refine ⟨⟨PC, hb⟩, fun j hj => ?_, fun j => ?_, fun q hq => (by omega), ?_, ?_⟩
    · refine ⟨cur[j]'(by omega), ?_⟩
      simp [World.cell?, hgb, show j < cur.size by omega]
    · simp [World.frozen?, hgb]
    · refine ((Below.refl _ _).alloc (Nat.le_refl _) (.cells PC 42)).trans ⟨hg.os, hg.tape, hg.output, hg.size, fun i hi => hg.block i (by simp; omega) (by simp)⟩
    · have := lt_of_block hgb; omega
theorem Fill.step {w wr : World} {len k : Nat} {z : Nat → Int} (h : Fill w wr len k z) (hk : k < len) :
    Fill w (((wr.setCell ⟨w.heap.size + 1, k * 3, none⟩ (.int .i64 (z k))).setCell ⟨w.heap.size + 1, k * 3 + 1, none⟩ (.int .i64 (2 * k))).setCell ⟨w.heap.size + 1, k * 3 + 1 + 1, none⟩ (.int .i64 (k + 1))) len (k + 1) z := by
  obtain ⟨v0, h0⟩ := h.ex (k * 3) (by omega)
  obtain ⟨v1, h1⟩ := h.ex (k * 3 + 1) (by omega)
  obtain ⟨v2, h2⟩ := h.ex (k * 3 + 1 + 1) (by omega)
  have key : ∀ j, (((wr.setCell ⟨w.heap.size + 1, k * 3, none⟩ (.int .i64 (z k))).setCell ⟨w.heap.size + 1, k * 3 + 1, none⟩ (.int .i64 (2 * k))).setCell ⟨w.heap.size + 1, k * 3 + 1 + 1, none⟩ (.int .i64 (k + 1))).cell? ⟨w.heap.size + 1, j, none⟩ =
      if j = k * 3 then some (.int .i64 (z k)) else if j = k * 3 + 1 then some (.int .i64 (2 * k)) else if j = k * 3 + 1 + 1 then some (.int .i64 (k + 1)) else wr.cell? ⟨w.heap.size + 1, j, none⟩ := by
    intro j
    by_cases e2 : j = k * 3 + 1 + 1
    · subst e2
      rw [World.cell?_setCell_same _ _ _ (u := v2) (by rw [World.cell?_setCell_other _ _ _ _ (by simp), World.cell?_setCell_other _ _ _ _ (by simp)]; exact h2), if_neg (by omega), if_neg (by omega), if_pos rfl]
    · rw [World.cell?_setCell_other _ _ _ _ (by intro h; cases h; exact e2 rfl)]
      by_cases e1 : j = k * 3 + 1
      · subst e1
        rw [World.cell?_setCell_same _ _ _ (u := v1) (by rw [World.cell?_setCell_other _ _ _ _ (by simp)]; exact h1), if_neg (by omega), if_pos rfl]
      · rw [World.cell?_setCell_other _ _ _ _ (by intro h; cases h; exact e1 rfl)]
        by_cases e0 : j = k * 3
        · subst e0
          rw [World.cell?_setCell_same _ _ _ h0, if_pos rfl]
        · rw [World.cell?_setCell_other _ _ _ _ (by intro h; cases h; exact e0 rfl), if_neg e0, if_neg e1, if_neg e2]
  refine ⟨?_, fun j hj => ?_, fun j => ?_, fun q hq => ?_, ?_, by simpa using h.siz⟩
  · obtain ⟨PC, hp⟩ := h.pc
    refine ⟨PC, ?_⟩
    rw [RowKit.Below.heap_setCell _ _ _ _ (by simp), RowKit.Below.heap_setCell _ _ _ _ (by simp), RowKit.Below.heap_setCell _ _ _ _ (by simp)]
    exact hp
  · rw [key]
    split
    · exact ⟨_, rfl⟩
    · split
      · exact ⟨_, rfl⟩
      · split
        · exact ⟨_, rfl⟩
        · exact h.ex j hj
  · rw [World.frozen?_setCell, World.frozen?_setCell, World.frozen?_setCell]
    exact h.fz j
  · rw [key, key, key]
    by_cases e : q = k
    · subst e
      refine ⟨by rw [if_pos rfl], by rw [if_neg (by omega), if_pos rfl], by rw [if_neg (by omega), if_neg (by omega), if_pos rfl]⟩
    · have := h.cs q (by omega)
      refine ⟨by rw [if_neg (by omega), if_neg (by omega), if_neg (by omega)]; exact this.1, by rw [if_neg (by omega), if_neg (by omega), if_neg (by omega)]; exact this.2.1, by rw [if_neg (by omega), if_neg (by omega), if_neg (by omega)]; exact this.2.2⟩
  · exact ((h.bel.setCell (by simp) _).setCell (by simp) _).setCell (by simp) _
/-! ### the map among the blocks that the law lays -/
def M (wr : World) (L R O S Kv m : Obj) : World := (((((wr.alloc L).alloc R).alloc O).alloc m).alloc S).alloc Kv
theorem setBlock_past (w : World) (o x : Obj) (b : Nat) (h : b < w.heap.size) : ChangeMaps.setBlock (w.alloc o) b x = (ChangeMaps.setBlock w b x).alloc o := by
  have e : (w.heap.push o).setIfInBounds b x = (w.heap.setIfInBounds b x).push o := by
    apply Array.ext_getElem?
    intro i
    simp only [Array.getElem?_setIfInBounds, Array.getElem?_push, Array.size_setIfInBounds, Array.size_push]
    by_cases e1 : b = i
    · subst e1
      rw [if_pos rfl, if_pos (by omega), if_neg (by omega), if_pos rfl, if_pos h]
    · rw [if_neg e1, if_neg e1]
  show ({ (w.alloc o) with heap := (w.heap.push o).setIfInBounds b x } : World) = _
  rw [e]
  rfl
theorem setBlock_here (w : World) (o x : Obj) : ChangeMaps.setBlock (w.alloc o) w.heap.size x = w.alloc x := by
  have e : (w.heap.push o).setIfInBounds w.heap.size x = w.heap.push x := by
    apply Array.ext_getElem?
    intro i
    simp only [Array.getElem?_setIfInBounds, Array.getElem?_push, Array.size_push]
    by_cases e1 : w.heap.size = i
    · subst e1
      rw [if_pos rfl, if_pos (by omega), if_pos rfl]
    · rw [if_neg e1, if_neg (Ne.symm e1), if_neg (Ne.symm e1)]
  show ({ (w.alloc o) with heap := (w.heap.push o).setIfInBounds w.heap.size x } : World) = _
  rw [e]
  rfl
theorem setM (wr : World) (L R O S Kv m m' : Obj) : ChangeMaps.setBlock (M wr L R O S Kv m) (wr.heap.size + 1 + 1 + 1) m' = M wr L R O S Kv m' := by
  have h := setBlock_here (((wr.alloc L).alloc R).alloc O) m m'
  simp only [World.size_alloc] at h
  unfold M
  rw [setBlock_past _ _ _ _ (by simp), setBlock_past _ _ _ _ (by simp), h]
theorem heapM (wr : World) (L R O S Kv m : Obj) : (M wr L R O S Kv m).heap[wr.heap.size + 1 + 1 + 1]? = some m := by
  have h := (MapKept.heap_alloc (((wr.alloc L).alloc R).alloc O) m).1
  simp only [World.size_alloc] at h
  unfold M
  rw [(MapKept.heap_alloc _ Kv).2 _ (by simp), (MapKept.heap_alloc _ S).2 _ (by simp), h]
theorem oldM (wr : World) (L R O S Kv m : Obj) (i : Nat) (hi : i < wr.heap.size) : (M wr L R O S Kv m).heap[i]? = wr.heap[i]? := by
  unfold M
  rw [(MapKept.heap_alloc _ Kv).2 _ (by simp; omega), (MapKept.heap_alloc _ S).2 _ (by simp; omega), (MapKept.heap_alloc _ m).2 _ (by simp; omega), (MapKept.heap_alloc _ O).2 _ (by simp; omega), (MapKept.heap_alloc _ R).2 _ (by simp; omega), (MapKept.heap_alloc _ L).2 _ hi]
theorem sizeM (wr : World) (L R O S Kv m : Obj) : (M wr L R O S Kv m).heap.size = wr.heap.size + 1 + 1 + 1 + 1 + 1 + 1 := by
  simp [M]
theorem upd1 (wr : World) (L R O S Kv : Obj) (c : Nat) (a : Int) (cl : Bool) (v : Value) :
    (Instr.mapUpdate 53 (.map (some (wr.heap.size + 1 + 1 + 1))) (.agg #[.pointer (some ⟨c, 0, none⟩), .int .i64 a, .bool cl]) v).run Ybad.prog (M wr L R O S Kv (.map #[] 0)).drew = .ok () (M wr L R O S Kv (.map #[⟨K c a cl, v, 0⟩] 1)).drew := by
  have h := updMiss (wr.heap.size + 1 + 1 + 1) c a cl v 0 #[] (M wr L R O S Kv (.map #[] 0)).drew (heapM wr L R O S Kv _) (fun e he => by cases he)
  refine Eq.trans h ?_
  show Result.ok () (ChangeMaps.setBlock (M wr L R O S Kv (.map #[] 0)) (wr.heap.size + 1 + 1 + 1) _).drew = _
  rw [setM]
  rfl
theorem upd2 (wr : World) (L R O S Kv : Obj) (c : Nat) (a : Int) (cl : Bool) (v u : Value) :
    (Instr.mapUpdate 53 (.map (some (wr.heap.size + 1 + 1 + 1))) (.agg #[.pointer (some ⟨c, 0, none⟩), .int .i64 a, .bool !cl]) u).run Ybad.prog (M wr L R O S Kv (.map #[⟨K c a cl, v, 0⟩] 1)).drew = .ok () (M wr L R O S Kv (.map #[⟨K c a cl, v, 0⟩, ⟨K c a !cl, u, 1⟩] 2)).drew := by
  have h := updMiss (wr.heap.size + 1 + 1 + 1) c a (!cl) u 1 #[⟨K c a cl, v, 0⟩] (M wr L R O S Kv (.map #[⟨K c a cl, v, 0⟩] 1)).drew (heapM wr L R O S Kv _) (fun e he => by
    simp at he
    subst he
    exact ⟨c, cl, rfl, by cases cl <;> simp, Or.inl rfl⟩)
  refine Eq.trans h ?_
  show Result.ok () (ChangeMaps.setBlock (M wr L R O S Kv _) (wr.heap.size + 1 + 1 + 1) _).drew = _
  rw [setM]
  rfl
theorem upd3 (wr : World) (L R O S Kv : Obj) (c : Nat) (a : Int) (cl : Bool) (v u : Value) (PC P2 : Array Value) (hc : wr.heap[c]? = some (.cells PC 42)) :
    (Instr.mapUpdate 53 (.map (some (wr.heap.size + 1 + 1 + 1))) (.agg #[.pointer (some ⟨wr.heap.size + 1 + 1 + 1 + 1 + 1 + 1, 0, none⟩), .int .i64 a, .bool cl]) u).run Ybad.prog ((M wr L R O S Kv (.map #[⟨K c a cl, v, 0⟩, ⟨K c a !cl, u, 1⟩] 2)).alloc (.cells P2 42)).drew =
      .ok () ((M wr L R O S Kv (.map #[⟨K c a cl, v, 0⟩, ⟨K c a !cl, u, 1⟩, ⟨K (wr.heap.size + 1 + 1 + 1 + 1 + 1 + 1) a cl, u, 2⟩] 3)).alloc (.cells P2 42)).drew := by
  have hlt := lt_of_block hc
  have hs := sizeM wr L R O S Kv (.map #[⟨K c a cl, v, 0⟩, ⟨K c a !cl, u, 1⟩] 2)
  have h2 := (MapKept.heap_alloc (M wr L R O S Kv (.map #[⟨K c a cl, v, 0⟩, ⟨K c a !cl, u, 1⟩] 2)) (.cells P2 42))
  rw [hs] at h2
  have told : Told ((M wr L R O S Kv (.map #[⟨K c a cl, v, 0⟩, ⟨K c a !cl, u, 1⟩] 2)).alloc (.cells P2 42)).drew (wr.heap.size + 1 + 1 + 1 + 1 + 1 + 1) c :=
    Or.inr ⟨P2, 42, PC, 42, h2.1, (h2.2 c (by omega)).trans ((oldM wr L R O S Kv _ c hlt).trans hc)⟩
  have ne : ((wr.heap.size + 1 + 1 + 1 + 1 + 1 + 1 == c) : Bool) = false := by simp; omega
  have h := updMiss (wr.heap.size + 1 + 1 + 1) (wr.heap.size + 1 + 1 + 1 + 1 + 1 + 1) a cl u 2 #[⟨K c a cl, v, 0⟩, ⟨K c a !cl, u, 1⟩] ((M wr L R O S Kv (.map #[⟨K c a cl, v, 0⟩, ⟨K c a !cl, u, 1⟩] 2)).alloc (.cells P2 42)).drew ((h2.2 _ (by omega)).trans (heapM wr L R O S Kv _)) (fun e he => by
    simp at he
    rcases he with rfl | rfl
    · exact ⟨c, cl, rfl, by rw [ne]; rfl, told⟩
    · exact ⟨c, !cl, rfl, by rw [ne]; rfl, told⟩)
  refine Eq.trans h ?_
  show Result.ok () (ChangeMaps.setBlock ((M wr L R O S Kv _).alloc _) (wr.heap.size + 1 + 1 + 1) _).drew = _
  rw [setBlock_past _ _ _ _ (by rw [sizeM]; omega), setM]
  rfl
theorem mapAt (wr : World) (L R O S Kv X : Obj) (m : Obj) : (((((((wr.alloc L).alloc R).alloc O).alloc m).alloc S).alloc Kv).alloc X).drew.heap[wr.heap.size + 1 + 1 + 1]? = some m := by
  show ((M wr L R O S Kv m).alloc X).heap[wr.heap.size + 1 + 1 + 1]? = some m
  rw [(MapKept.heap_alloc _ X).2 _ (by rw [sizeM]; omega)]
  exact heapM wr L R O S Kv m
theorem oldAt (wr : World) (L R O S Kv X : Obj) (m : Obj) (a : Addr) (h : a.block < wr.heap.size) : (((((((wr.alloc L).alloc R).alloc O).alloc m).alloc S).alloc Kv).alloc X).drew.cell? a = wr.cell? a := by
  refine World.cell?_of_block ?_
  show ((M wr L R O S Kv m).alloc X).heap[a.block]? = _
  rw [(MapKept.heap_alloc _ X).2 _ (by rw [sizeM]; omega)]
  exact oldM wr L R O S Kv m _ h
theorem pneq62 (a : Addr) (w : World) : (binOp .neq 62 (.pointer (some a)) (.pointer (some a))).run Ybad.prog w = .ok (.bool false) w := by
  have h : ∀ d : Nat, (Op.equalIn (d + 1) 62 (.pointer (some a)) (.pointer (some a))).run Ybad.prog w = .ok true w := fun d => by
    simp [Op.equalIn, run_underlying Ybad.underlying62, sizeOf, run_sameAddr_same]
  simp only [binOp]
  simp [Op.equal, Op.maxDepth, h 9999]
theorem pneq47 (a : Addr) (w : World) : (binOp .neq 47 (.pointer (some a)) (.pointer (some a))).run Ybad.prog w = .ok (.bool false) w := by
  have h : ∀ d : Nat, (Op.equalIn (d + 1) 47 (.pointer (some a)) (.pointer (some a))).run Ybad.prog w = .ok true w := fun d => by
    simp [Op.equalIn, run_underlying Ybad.underlying47, sizeOf, run_sameAddr_same]
  simp only [binOp]
  simp [Op.equal, Op.maxDepth, h 9999]
/-- what stands behind the call -/
theorem behind {w wr w5 : World} {len n0 : Nat} {z : Nat → Int} {a : Int} {cl : Bool} {res : Int} {o2 o3 X : Obj} {u : Value} (F : Fill w wr len len z) (hn : wr.heap.size = n0)
    (hB : Below (((((((wr.alloc (.cells #[.pointer (some ⟨w.heap.size, 0, none⟩), .slice (some ⟨w.heap.size + 1, 0, none⟩) len len, .slice none 0 0, .int .i64 0, .int .i64 0, .slice none 0 0, .slice none 0 0, .slice none 0 0, .int .i64 0, .int .u64 0, .int .i64 0, .slice none 0 0, .bool true, .int .i64 res] 51)).alloc o2).alloc o3).alloc (.map #[⟨K w.heap.size a cl, .pointer (some ⟨n0, 0, none⟩), 0⟩, ⟨K w.heap.size a !cl, u, 1⟩, ⟨K (n0 + 1 + 1 + 1 + 1 + 1 + 1) a cl, u, 2⟩] 3)).alloc (.cells #[.slice none 0 0, .int .i64 0, .bool false, .slice none 0 0, .map (some (n0 + 1 + 1 + 1)), .int .i64 0, .int .i64 0, .slice none 0 0, .slice none 0 0, .slice none 0 0, .slice none 0 0, .pointer none, .bool cl, .slice none 0 0] 59)).alloc (.cells #[.pointer (some ⟨w.heap.size, 0, none⟩), .int .i64 a, .bool cl] 61)).alloc X).drew.heap.size
      (((((((wr.alloc (.cells #[.pointer (some ⟨w.heap.size, 0, none⟩), .slice (some ⟨w.heap.size + 1, 0, none⟩) len len, .slice none 0 0, .int .i64 0, .int .i64 0, .slice none 0 0, .slice none 0 0, .slice none 0 0, .int .i64 0, .int .u64 0, .int .i64 0, .slice none 0 0, .bool true, .int .i64 res] 51)).alloc o2).alloc o3).alloc (.map #[⟨K w.heap.size a cl, .pointer (some ⟨n0, 0, none⟩), 0⟩, ⟨K w.heap.size a !cl, u, 1⟩, ⟨K (n0 + 1 + 1 + 1 + 1 + 1 + 1) a cl, u, 2⟩] 3)).alloc (.cells #[.slice none 0 0, .int .i64 0, .bool false, .slice none 0 0, .map (some (n0 + 1 + 1 + 1)), .int .i64 0, .int .i64 0, .slice none 0 0, .slice none 0 0, .slice none 0 0, .slice none 0 0, .pointer none, .bool cl, .slice none 0 0] 59)).alloc (.cells #[.pointer (some ⟨w.heap.size, 0, none⟩), .int .i64 a, .bool cl] 61)).alloc X).drew w5) :
    w5.cell? ⟨n0 + 1 + 1 + 1 + 1, 4, none⟩ = some (.map (some (n0 + 1 + 1 + 1))) ∧ w5.cell? ⟨n0 + 1 + 1 + 1 + 1 + 1, 0, none⟩ = some (.pointer (some ⟨w.heap.size, 0, none⟩)) ∧ w5.cell? ⟨n0 + 1 + 1 + 1 + 1 + 1, 1, none⟩ = some (.int .i64 a) ∧ w5.cell? ⟨n0 + 1 + 1 + 1 + 1 + 1, 2, none⟩ = some (.bool cl) ∧
      w5.cell? ⟨n0, 1, none⟩ = some (.slice (some ⟨w.heap.size + 1, 0, none⟩) len len) ∧ w5.cell? ⟨n0, 12, none⟩ = some (.bool true) ∧ w5.cell? ⟨n0, 13, none⟩ = some (.int .i64 res) ∧ n0 + 1 + 1 + 1 + 1 + 1 + 1 < w5.heap.size ∧ Below w.heap.size w w5 ∧
      w5.heap[n0 + 1 + 1 + 1]? = some (.map #[⟨K w.heap.size a cl, .pointer (some ⟨n0, 0, none⟩), 0⟩, ⟨K w.heap.size a !cl, u, 1⟩, ⟨K (n0 + 1 + 1 + 1 + 1 + 1 + 1) a cl, u, 2⟩] 3) ∧ ∀ b j, b < w.heap.size → w5.cell? ⟨b, j, none⟩ = w.cell? ⟨b, j, none⟩ := by
  subst hn
  have hs := F.siz
  have hz := hB.size
  simp only [World.size_drew, World.size_alloc] at hz
  have hBw : Below w.heap.size w w5 := by
    refine Below.trans ?_ (hB.mono (by simp; omega))
    exact (((((((F.bel.alloc F.bel.size _).alloc (by simp; have := F.bel.size; omega) _).alloc (by simp; omega) _).alloc (by simp; omega) _).alloc (by simp; omega) _).alloc (by simp; omega) _).alloc (by simp; omega) _).drew
  refine ⟨?_, ?_, ?_, ?_, ?_, ?_, ?_, by omega, hBw, ?_, fun b j hb => hBw.cell (p := ⟨b, j, none⟩) hb⟩
  · exact (hB.cell (p := ⟨wr.heap.size + 1 + 1 + 1 + 1, 4, none⟩) (by simp)).trans (by simp [go_sem])
  · exact (hB.cell (p := ⟨wr.heap.size + 1 + 1 + 1 + 1 + 1, 0, none⟩) (by simp)).trans (by simp [go_sem])
  · exact (hB.cell (p := ⟨wr.heap.size + 1 + 1 + 1 + 1 + 1, 1, none⟩) (by simp)).trans (by simp [go_sem])
  · exact (hB.cell (p := ⟨wr.heap.size + 1 + 1 + 1 + 1 + 1, 2, none⟩) (by simp)).trans (by simp [go_sem])
  · exact (hB.cell (p := ⟨wr.heap.size, 1, none⟩) (by simp; omega)).trans (by simp [go_sem])
  · exact (hB.cell (p := ⟨wr.heap.size, 12, none⟩) (by simp; omega)).trans (by simp [go_sem])
  · exact (hB.cell (p := ⟨wr.heap.size, 13, none⟩) (by simp; omega)).trans (by simp [go_sem])
  · rw [hB.block _ (by simp; try omega)]
    exact mapAt wr _ _ _ _ _ _ _
theorem lookBehind {w5 : World} {n0 c : Nat} {a : Int} {cl : Bool} {es : List MapEntry} {v : Value} (o : Obj) (m : Nat) (h : w5.heap[n0 + 1 + 1 + 1]? = some (.map ⟨⟨K c a cl, v, 0⟩ :: es⟩ 3)) :
    (Instr.lookup 53 (.map (some (n0 + 1 + 1 + 1))) (.agg #[.pointer (some ⟨c, 0, none⟩), .int .i64 a, .bool cl]) false).run Ybad.prog ((w5.alloc o).drewN m) = .ok v ((w5.alloc o).drewN m) := by
  refine lookHit (n0 + 1 + 1 + 1) c a cl v 0 3 es _ ?_
  show (w5.alloc o).heap[n0 + 1 + 1 + 1]? = _
  rw [(MapKept.heap_alloc w5 o).2 _ (lt_of_block h)]
  exact h
theorem lenBehind {w5 : World} {n0 : Nat} {e1 e2 e3 : MapEntry} (o : Obj) (m : Nat) (ty : TypeId) (h : w5.heap[n0 + 1 + 1 + 1]? = some (.map #[e1, e2, e3] 3)) :
    (Builtin.len_ #[53] ty #[.map (some (n0 + 1 + 1 + 1))]).run Ybad.prog ((w5.alloc o).drewN m) = .ok (.int .i64 3) ((w5.alloc o).drewN m) := by
  refine lenMap (n0 + 1 + 1 + 1) 3 #[e1, e2, e3] _ ?_ ty
  show (w5.alloc o).heap[n0 + 1 + 1 + 1]? = _
  rw [(MapKept.heap_alloc w5 o).2 _ (lt_of_block h)]
  exact h
end Go.Proofs.YbulkczfqDoor
