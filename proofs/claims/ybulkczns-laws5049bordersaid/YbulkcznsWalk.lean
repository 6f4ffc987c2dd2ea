/-
  THE WALK OF LawS5049BOrder.
-/
import Derived.Test.YbulkcznsParts
namespace Go.Proofs.Ybulkczns
open Go.RowKit Go.Lib
theorem pneq23 (o : Option Addr) (w : World) : (binOp .neq 23 (.pointer o) (.pointer o)).run Yba.prog w = .ok (.bool false) w := by
  cases o with
  | none => kernel_rfl
  | some a =>
    have h : ∀ d : Nat, (Op.equalIn (d + 1) 23 (.pointer (some a)) (.pointer (some a))).run Yba.prog w = .ok true w := fun d => by
      simp [Op.equalIn, run_underlying Yba.underlying23, sizeOf, run_sameAddr_same]
    simp only [binOp]
    simp [Op.equal, Op.maxDepth, h 9999]
/-- the loop that makes the nodes -/
structure Fill (w wr : World) (len k : Nat) (z : Nat → Int) : Prop where
  pool : Pool wr w.heap.size
  nodes : Nodes wr (w.heap.size + 1 + 1 + 1 + 1) k w.heap.size z
  ex : ∀ j, j < len → ∃ v, wr.cell? ⟨w.heap.size + 1 + 1 + 1 + 1, j, none⟩ = some v
  fz : ∀ j, wr.frozen? ⟨w.heap.size + 1 + 1 + 1 + 1, j, none⟩ = false
  bel : Below w.heap.size w wr
  siz : w.heap.size + 1 + 1 + 1 + 1 < wr.heap.size
theorem Fill.step {w wr : World} {len k : Nat} {z : Nat → Int} (h : Fill w wr len k z) (hk : k < len) (cs : Array Value) (h0 : cs[0]? = some (.pointer (pk w.heap.size (z k)))) (h2 : cs[2]? = some (.int .i64 k)) :
    Fill w ((wr.setCell ⟨w.heap.size + 1 + 1 + 1 + 1, k, none⟩ (.pointer (some ⟨wr.heap.size, 0, none⟩))).alloc (.cells cs 42)) len (k + 1) z := by
  have hs := h.siz
  have hb := h.bel.size
  obtain ⟨v, hv⟩ := h.ex k hk
  have here := World.cell?_setCell_same wr ⟨w.heap.size + 1 + 1 + 1 + 1, k, none⟩ (.pointer (some ⟨wr.heap.size, 0, none⟩)) hv
  have hbel : Below w.heap.size w (wr.setCell ⟨w.heap.size + 1 + 1 + 1 + 1, k, none⟩ (.pointer (some ⟨wr.heap.size, 0, none⟩))) := h.bel.setCell (by show w.heap.size ≤ w.heap.size + 1 + 1 + 1 + 1; omega) _
  have old1 : ∀ i j, (i ≠ w.heap.size + 1 + 1 + 1 + 1 ∨ j ≠ k) → (wr.setCell ⟨w.heap.size + 1 + 1 + 1 + 1, k, none⟩ (.pointer (some ⟨wr.heap.size, 0, none⟩))).cell? ⟨i, j, none⟩ = wr.cell? ⟨i, j, none⟩ := fun i j hne =>
    World.cell?_setCell_other _ _ _ _ (by intro e; simp only [Addr.mk.injEq] at e; omega)
  have hfz : ∀ j, (wr.setCell ⟨w.heap.size + 1 + 1 + 1 + 1, k, none⟩ (.pointer (some ⟨wr.heap.size, 0, none⟩))).frozen? ⟨w.heap.size + 1 + 1 + 1 + 1, j, none⟩ = false := fun j => by rw [World.frozen?_setCell]; exact h.fz j
  have hsz : (wr.setCell ⟨w.heap.size + 1 + 1 + 1 + 1, k, none⟩ (.pointer (some ⟨wr.heap.size, 0, none⟩))).heap.size = wr.heap.size := by simp
  revert here hbel old1 hfz hsz
  generalize wr.setCell ⟨w.heap.size + 1 + 1 + 1 + 1, k, none⟩ (.pointer (some ⟨wr.heap.size, 0, none⟩)) = W
  intro here hbel old1 hfz hsz
  have old : ∀ i j, i < wr.heap.size → (i ≠ w.heap.size + 1 + 1 + 1 + 1 ∨ j ≠ k) → (W.alloc (.cells cs 42)).cell? ⟨i, j, none⟩ = wr.cell? ⟨i, j, none⟩ := fun i j hi hne =>
    (World.cell?_of_block ((MapKept.heap_alloc W _).2 _ (by rw [hsz]; exact hi))).trans (old1 i j hne)
  have new : ∀ j, (W.alloc (.cells cs 42)).cell? ⟨wr.heap.size, j, none⟩ = cs[j]? := fun j => by
    have e := (MapKept.heap_alloc W (.cells cs 42)).1
    rw [hsz] at e
    simp only [World.cell?, e]
    rfl
  have here' : (W.alloc (.cells cs 42)).cell? ⟨w.heap.size + 1 + 1 + 1 + 1, k, none⟩ = some (.pointer (some ⟨wr.heap.size, 0, none⟩)) := Lib.cell?_alloc_some _ here
  refine ⟨h.pool.far fun i j hi => old i j (by omega) (by omega), fun j hj => ?_, fun j hj => ?_, fun j => ?_, hbel.alloc hbel.size _, by rw [World.size_alloc]; omega⟩
  · by_cases e : j = k
    · subst e
      exact ⟨wr.heap.size, by omega, here', (new 0).trans h0, (new 2).trans h2⟩
    · obtain ⟨c, hc, c0, c1, c2⟩ := h.nodes j (by omega)
      exact ⟨c, hc, (old _ _ (by omega) (by omega)).trans c0, (old c 0 (lt_of_cell c1) (by omega)).trans c1, (old c 2 (lt_of_cell c1) (by omega)).trans c2⟩
  · by_cases e : j = k
    · subst e
      exact ⟨_, here'⟩
    · obtain ⟨u, hu⟩ := h.ex j hj
      exact ⟨u, (old _ _ (by omega) (by omega)).trans hu⟩
  · rw [World.frozen?_of_block ((MapKept.heap_alloc W _).2 _ (by show w.heap.size + 1 + 1 + 1 + 1 < _; omega))]
    exact hfz j
theorem Fill.start {w w0 w1 : World} {len : Nat} {z : Nat → Int} {xs : List Value} (ho : w1.ownsRow (w.heap.size + 1 + 1 + 1 + 1) 36 1 (.slice (some ⟨w.heap.size + 1 + 1 + 1 + 1, 0, none⟩) len len) len xs) (hg : w0.grownBy w1 none) (P : Pool w0 w.heap.size) (B : Below w.heap.size w w0) (hs : w0.heap.size = w.heap.size + 1 + 1 + 1 + 1) : Fill w w1 len 0 z := by
  obtain ⟨_, h⟩ := ho
  rcases h with ⟨h1, _⟩ | ⟨g, cap, cur, hv, _, hgb, _, _, hsz, _⟩
  · cases h1
  · cases hv
    refine ⟨P.far fun i j hi => World.cell?_of_block (hg.block _ (by show i < _; omega) (by simp)), fun j hj => (by omega), fun j hj => ?_, fun j => ?_, ?_, lt_of_block hgb⟩
    · refine ⟨cur[j]'(by omega), ?_⟩
      simp [World.cell?, hgb, show j < cur.size by omega]
    · simp [World.frozen?, hgb]
    · exact B.trans ⟨hg.os, hg.tape, hg.output, hg.size, fun i hi => hg.block i (by omega) (by simp)⟩
theorem got {w : World} {base n b : Nat} {z : Nat → Int} {v : Value} (h : w.ownsRow base 23 1 v n (pks b z n)) (hn : 0 < n) : ∃ g cap, v = .slice (some ⟨g, 0, none⟩) n cap ∧ ∀ k, k < n → w.cell? ⟨g, k, none⟩ = some (.pointer (pk b (z k))) := by
  obtain ⟨_, h⟩ := h
  rcases h with ⟨_, h1⟩ | ⟨g, cap, cur, rfl, hg, hgb, hnc, hcm, hsz, ht⟩
  · omega
  refine ⟨g, cap, rfl, fun k hk => ?_⟩
  have e : (cur.toList.take (n * 1))[k]? = some (.pointer (pk b (z k))) := by rw [ht]; simp [pks, hk]
  rw [List.getElem?_take_of_lt (by omega)] at e
  simpa [World.cell?, hgb] using e
set_option maxHeartbeats 1000000 in
set_option maxRecDepth 100000 in
theorem order (ad : Option Addr) (len cap : Nat) (z : Nat → Int) (w : World) (hlen : len ≤ 1024)
    (had : 0 < len → ∃ b off, ad = some ⟨b, off, none⟩ ∧ b < w.heap.size ∧ ∀ k, k < len → w.cell? ⟨b, off + k, none⟩ = some (.int .u8 (z k))) (hz : ∀ k, k < len → 0 ≤ z k) :
    Calls Yba.prog 3 #[.slice ad len cap] w fun e w' => e = .returned (.bool true) ∧ Below w.heap.size w w' := by
  have h1024 : decide ((1024 : Int) < len) = false := by simp; omega
  obtain ⟨i36, hi, hz0, hz1, hz2⟩ := info_parts info36
  go_enter Yba.func3, Yba.ntmps3
  go_wp2_with (first
    | (at_make; refine wpList_make_full _ rfl _ _ 35 rfl (w.heap.size + 1 + 1 + 1 + 1) 36 i36 _ 1 Yba.underlying35 hi hz0 hz1 .i64 .i64 _ _ len rfl rfl rfl rfl (by rw [hz2]; omega) (by unfold maxLen; omega) (by simp) ?_; intro w1 hown1 hgrow1)
    | go_in)
  clear h1024
  simp only [World.size_alloc] at hown1
  have F0 : Fill w w1 len 0 z := Fill.start hown1 hgrow1 ⟨by simp [go_sem], by simp [go_sem], by simp [go_sem], by simp [go_sem], by simp [go_sem], by simp [go_sem]⟩ ((((((Below.refl _ w).alloc (Nat.le_refl _) _).alloc (by simp) _).alloc (by simp; omega) _).alloc (by simp; omega) _)) (by simp)
  clear hown1 hgrow1
  go_loopw [29] (fun i wr => ∃ k : Nat, k ≤ len ∧ i = .int .i64 k ∧ Fill w wr len k z) (fun i _ => len - (intOf i).toNat)
  case atStart => exact ⟨0, by omega, rfl, F0⟩
  case round =>
    clear F0
    obtain ⟨k, hk, rfl, F⟩ := hrel
    by_cases hlt : k < len
    · obtain ⟨b, off, rfl, hb, hc⟩ := had (by omega)
      have a0 : wr.cell? ⟨b, off + k, none⟩ = some (.int .u8 (z k)) := (F.bel.cell (p := ⟨b, off + k, none⟩) hb).trans (hc k hlt)
      obtain ⟨v, hv⟩ := F.ex k hlt
      have f0 := F.fz k
      have hs := F.siz
      go_wp2_with fail
      refine (pick w.heap.size (z k) _ F.pool (hz k hlt)).mono ?_
      rintro e w2 ⟨rfl, rfl⟩
      go_wp2
      go_roundw
      case rel => exact ⟨k + 1, by omega, by go_num, F.step hlt #[.pointer (pk w.heap.size (z k)), .slice none 0 0, .int .i64 k, .slice none 0 0, .bool false, .bool false, .slice none 0 0, .bool false] rfl rfl⟩
      case measure => simp [intOf]; omega
    · have hkl : k = len := by omega
      subst hkl
      clear hlt hk
      go_wp2_with fail
      refine (packages _ k w.heap.size z _ F.nodes hlen).mono ?_
      rintro e w3 ⟨v, rfl, row, B3, hnil⟩
      have hB : Below w.heap.size w w3 := F.bel.trans (B3.mono F.bel.size)
      by_cases h0 : k = 0
      · subst h0
        obtain rfl := hnil rfl
        have q34 : ∀ (w : World) (a : Option Addr) (n c n' c' : Nat), (binOp .eql 34 (.slice a n c) (.slice none n' c')).run Yba.prog w = .ok (.bool a.isNone) w := fun w a n c n' c' => Lib.run_eql_slice_nil w _ _ a n c n' c' Yba.underlying34
        go_wp2
        go_ret
        exact ⟨rfl, hB⟩
      have hne : ((k : Int) == 0) = false := by simp; omega
      obtain ⟨g, gc, rfl, G⟩ := got row (by omega)
      obtain ⟨b, off, rfl, hb, hc⟩ := had (by omega)
      have P3 : Pool w3 w.heap.size := F.pool.far fun i j hi => B3.cell (p := ⟨i, j, none⟩) (by have := F.siz; show i < _; omega)
      have N3 : Nodes w3 (w.heap.size + 1 + 1 + 1 + 1) k w.heap.size z := fun j hj => by
        obtain ⟨c, hc, c0, c1, c2⟩ := F.nodes j hj
        exact ⟨c, hc, (B3.cell (lt_of_cell c0)).trans c0, (B3.cell (lt_of_cell c1)).trans c1, (B3.cell (lt_of_cell c2)).trans c2⟩
      have hcells : ∀ q, q < k → w3.cell? ⟨b, off + q, none⟩ = some (.int .u8 (z q)) := fun q hq => (hB.cell (p := ⟨b, off + q, none⟩) hb).trans (hc q hq)
      have HC : Hid (∀ q, q < k → w3.cell? ⟨b, off + q, none⟩ = some (.int .u8 (z q))) := hcells
      have HG : Hid (∀ q, q < k → w3.cell? ⟨g, q, none⟩ = some (.pointer (pk w.heap.size (z q)))) := G
      have hneq := pneq23
      clear hcells G F row B3 hnil hc had
      go_wp2_with fail
      go_loopw [58] (fun i wq => ∃ q : Nat, q ≤ k ∧ i = .int .i64 q ∧ wq = w3) (fun i _ => k - (intOf i).toNat)
      case atStart => exact ⟨0, by omega, rfl, rfl⟩
      case round =>
        obtain ⟨q, hq, rfl, rfl⟩ := hrel
        by_cases hlt : q < k
        · have a0 := HC q hlt
          have a1 := HG q hlt
          obtain ⟨c, hNc, c0, c1, c2⟩ := N3 q hlt
          go_wp2_with fail
          refine (pick w.heap.size (z q) _ P3 (hz q hlt)).mono ?_
          rintro e w4 ⟨rfl, rfl⟩
          go_wp2
          go_roundw
          case rel => exact ⟨q + 1, by omega, by go_num, trivial⟩
          case measure => simp [intOf]; omega
        · have hkl : q = k := by omega
          subst hkl
          obtain ⟨p0, p1, p2, s0, s1, s2⟩ := P3
          go_wp2
          go_ret
          exact ⟨rfl, hB⟩
theorem orderMany (a : Option Addr) (len cap : Nat) (w : World) (h : 1024 < len) : Calls Yba.prog 3 #[.slice a len cap] w fun e w' => e = .returned (.bool true) ∧ Below w.heap.size w w' := by
  have h' : (1024 : Int) < len := by omega
  go_enter Yba.func3, Yba.ntmps3
  go_wp2
  go_ret
  exact ⟨rfl, Below.refl _ _⟩
end Go.Proofs.Ybulkczns
