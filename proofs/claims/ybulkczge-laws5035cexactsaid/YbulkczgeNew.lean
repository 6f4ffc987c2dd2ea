/-
  newDecrypter's contracts; the rest of the decrypter.
-/
import Derived.Test.YbulkczgeClone
import Derived.Laws.EntriesVeiled
namespace Go.Proofs.Ybulkczge
open Go.RowKit Go.Lib
attribute [local go_sem ↓] Go.wp_at_zero Go.wp_at_succ
attribute [local go_sem] setCell_drewN alloc_drewN
theorem below_drewN {B : Nat} {w w' : World} (h : Below B w w') (n : Nat) : Below B w (w'.drewN n) := ⟨h.os, h.tape, h.output, h.size, h.block⟩
/-- the decrypter that holds key and password -/
def dec (key : Value) (pw : Value) : Value := .agg #[key, pw, .bool false, .nilIface, .nilFunc, .pointer none, .slice none 0 0, .nilIface, .slice none 0 0, .bool false, .string ⟨#[]⟩, .bool false]
set_option maxHeartbeats 1000000 in
set_option maxRecDepth 100000 in
theorem nd_nil (pw : ByteArray) (w : World) : Calls Yba.prog 6 #[.agg #[.slice none 0 0, .string pw]] w fun e w' => e = .returned (.tuple #[dec (.slice none 0 0) (.string pw), .nilIface]) ∧ Below w.heap.size w w' := by
  have q22 : ∀ (w : World) (a : Option Addr) (n c n' c' : Nat), (binOp .neq 22 (.slice a n c) (.slice none n' c')).run Yba.prog w = .ok (.bool (!a.isNone)) w := fun w a n c n' c' => run_neq_slice_nil_any w 22 5 a n c n' c' Yba.underlying22
  go_enter Yba.func6, Yba.ntmps6
  go_wp2_with fail
  go_region_held3 (fun w' => w'.cell? ⟨w.heap.size, 0, none⟩ = some (.slice none 0 0) ∧ w'.cell? ⟨w.heap.size, 1, none⟩ = some (.string pw))
    (simp [go_sem, World.cell?_alloc_past])
    (first | (go_at_call 9; refine (clone9_nil _).mono ?_; rintro e w' ⟨rfl, rfl⟩))
  go_wp2
  refine bodyPost_ret (v := .tuple #[dec (.slice none 0 0) (.string pw), .nilIface]) (by simp [results, Yba.results6, go_sem, dec]) rfl ⟨rfl, ?_⟩
  exact below_drewN (((Below.refl _ w).alloc (Nat.le_refl _) _).alloc (by simp) _) 1
theorem Copy.setCell {w w' : World} {n : Nat} {z : Nat → Int} {g cap : Nat} (h : Copy w w' n z g cap) {b k : Nat} (hb : b < g) (hw : w.heap.size ≤ b) (v : Value) : Copy w (w'.setCell ⟨b, k, none⟩ v) n z g cap :=
  ⟨h.ge, by simpa using h.lt, fun i hi => by rw [World.cell?_setCell_other _ _ _ _ (by intro e; cases e; omega)]; exact h.cs i hi, fun i => by rw [World.frozen?_setCell]; exact h.fz i, h.bel.setCell hw v⟩
theorem Copy.lower {w w' : World} {X Y : Obj} {n : Nat} {z : Nat → Int} {g cap : Nat} (h : Copy ((w.alloc X).alloc Y).drew w' n z g cap) : Copy w w' n z g cap ∧ w.heap.size + 1 < g := by
  have hg := h.ge
  have hs : ((w.alloc X).alloc Y).drew.heap.size = w.heap.size + 1 + 1 := by simp
  rw [hs] at hg
  exact ⟨⟨by omega, h.lt, h.cs, h.fz, (((Below.refl w.heap.size w).alloc (Nat.le_refl _) X).alloc (by simp) Y).drew.trans (h.bel.mono (by omega))⟩, by omega⟩
theorem old (w : World) (X Y : Obj) (a : Addr) (v : Value) (h : w.cell? a = some v) : ((w.alloc X).alloc Y).drew.cell? a = some v := Lib.cell?_alloc_some _ (Lib.cell?_alloc_some _ h)
theorem boxed {B : Nat} {w w' : World} {X : Obj} (h : Below B (((w.alloc X).alloc (.cells #[.slice none 0 0, .string ⟨#[]⟩, .bool false, .nilIface, .nilFunc, .pointer none, .slice none 0 0, .nilIface, .slice none 0 0, .bool false, .string ⟨#[]⟩, .bool false] 31)).drew) w') (hB : w.heap.size + 2 ≤ B) :
    (w'.cell? ⟨w.heap.size + 1, 0, none⟩ = some (.slice none 0 0) ∧ w'.cell? ⟨w.heap.size + 1, 1, none⟩ = some (.string ⟨#[]⟩) ∧ w'.cell? ⟨w.heap.size + 1, 2, none⟩ = some (.bool false) ∧ w'.cell? ⟨w.heap.size + 1, 3, none⟩ = some .nilIface ∧ w'.cell? ⟨w.heap.size + 1, 4, none⟩ = some .nilFunc ∧ w'.cell? ⟨w.heap.size + 1, 5, none⟩ = some (.pointer none) ∧
    w'.cell? ⟨w.heap.size + 1, 6, none⟩ = some (.slice none 0 0) ∧ w'.cell? ⟨w.heap.size + 1, 7, none⟩ = some .nilIface ∧ w'.cell? ⟨w.heap.size + 1, 8, none⟩ = some (.slice none 0 0) ∧ w'.cell? ⟨w.heap.size + 1, 9, none⟩ = some (.bool false) ∧ w'.cell? ⟨w.heap.size + 1, 10, none⟩ = some (.string ⟨#[]⟩) ∧ w'.cell? ⟨w.heap.size + 1, 11, none⟩ = some (.bool false)) ∧
    (w'.frozen? ⟨w.heap.size + 1, 0, none⟩ = false ∧ w'.frozen? ⟨w.heap.size + 1, 1, none⟩ = false ∧ w'.frozen? ⟨w.heap.size + 1, 2, none⟩ = false ∧ w'.frozen? ⟨w.heap.size + 1, 3, none⟩ = false ∧ w'.frozen? ⟨w.heap.size + 1, 4, none⟩ = false ∧ w'.frozen? ⟨w.heap.size + 1, 5, none⟩ = false ∧
    w'.frozen? ⟨w.heap.size + 1, 6, none⟩ = false ∧ w'.frozen? ⟨w.heap.size + 1, 7, none⟩ = false ∧ w'.frozen? ⟨w.heap.size + 1, 8, none⟩ = false ∧ w'.frozen? ⟨w.heap.size + 1, 9, none⟩ = false ∧ w'.frozen? ⟨w.heap.size + 1, 10, none⟩ = false ∧ w'.frozen? ⟨w.heap.size + 1, 11, none⟩ = false) := by
  have hb : w'.heap[w.heap.size + 1]? = some (.cells #[.slice none 0 0, .string ⟨#[]⟩, .bool false, .nilIface, .nilFunc, .pointer none, .slice none 0 0, .nilIface, .slice none 0 0, .bool false, .string ⟨#[]⟩, .bool false] 31) := by
    rw [h.block _ (by omega)]
    have e := (MapKept.heap_alloc (w.alloc X) (.cells #[.slice none 0 0, .string ⟨#[]⟩, .bool false, .nilIface, .nilFunc, .pointer none, .slice none 0 0, .nilIface, .slice none 0 0, .bool false, .string ⟨#[]⟩, .bool false] 31)).1
    rw [World.size_alloc] at e
    exact e
  simp [World.cell?, World.frozen?, hb]
set_option maxHeartbeats 4000000 in
set_option maxRecDepth 100000 in
theorem nd_key (g n cap : Nat) (z : Nat → Int) (w : World) (hn : n ≤ 4096) (hc : ∀ i, i < n → w.cell? ⟨g, i, none⟩ = some (.int .u8 (z i))) :
    Calls Yba.prog 6 #[.agg #[.slice (some ⟨g, 0, none⟩) n cap, .string ⟨#[]⟩]] w fun e w' => ∃ g' cap', e = .returned (.tuple #[dec (.slice (some ⟨g', 0, none⟩) n cap') (.string ⟨#[]⟩), .nilIface]) ∧ Copy w w' n z g' cap' := by
  have q22 : ∀ (w : World) (a : Option Addr) (n c n' c' : Nat), (binOp .neq 22 (.slice a n c) (.slice none n' c')).run Yba.prog w = .ok (.bool (!a.isNone)) w := fun w a n c n' c' => run_neq_slice_nil_any w 22 5 a n c n' c' Yba.underlying22
  have A : Hid (∀ i, i < n → w.cell? ⟨g, i, none⟩ = some (.int .u8 (z i))) := hc
  clear hc
  go_enter Yba.func6, Yba.ntmps6
  go_wp2_with fail
  go_region_held3 (fun w' => w'.cell? ⟨w.heap.size, 0, none⟩ = some (.slice (some ⟨g, 0, none⟩) n cap) ∧ w'.cell? ⟨w.heap.size, 1, none⟩ = some (.string ⟨#[]⟩))
    (first | (with_reducible exact ⟨s0, s1⟩) | (simp [go_sem, World.cell?_alloc_past]; done) | (simp [go_sem, s0, s1]; done))
    (first | (go_at_call 9; refine (clone9_at ⟨g, 0, none⟩ n cap z _ hn (fun i hi => old _ _ _ _ _ (by rw [WideShapes.add_plain, Nat.zero_add]; exact A i hi))).mono ?_; rintro e w' ⟨g', cap', rfl, hC⟩; obtain ⟨⟨c0, c1, c2, c3, c4, c5, c6, c7, c8, c9, c10, c11⟩, f0, f1, f2, f3, f4, f5, f6, f7, f8, f9, f10, f11⟩ := boxed hC.bel (by simp); have s0 : w'.cell? ⟨w.heap.size, 0, none⟩ = some (.slice (some ⟨g, 0, none⟩) n cap) := (hC.bel.cell (p := ⟨w.heap.size, 0, none⟩) (by simp; omega)).trans (by simp [go_sem]); have s1 : w'.cell? ⟨w.heap.size, 1, none⟩ = some (.string ⟨#[]⟩) := (hC.bel.cell (p := ⟨w.heap.size, 1, none⟩) (by simp; omega)).trans (by simp [go_sem])))
  go_wp2
  refine bodyPost_ret (v := .tuple #[dec (.slice (some ⟨g', 0, none⟩) n cap') (.string ⟨#[]⟩), .nilIface]) (by simp [results, Yba.results6, go_sem, dec, c0, c1, c2, c3, c4, c5, c6, c7, c8, c9, c10, c11]) rfl ⟨g', cap', rfl, ?_⟩
  obtain ⟨hD, hg⟩ := hC.lower
  exact (((((((((((hD.setCell hg (by omega) _).setCell hg (by omega) _).setCell hg (by omega) _).setCell hg (by omega) _).setCell hg (by omega) _).setCell hg (by omega) _).setCell hg (by omega) _).setCell hg (by omega) _).setCell hg (by omega) _).setCell hg (by omega) _).setCell hg (by omega) _).setCell hg (by omega) _
set_option maxHeartbeats 1000000 in
set_option maxRecDepth 100000 in
theorem nd_err (a : Addr) (n cap : Nat) (pw : ByteArray) (hpw : pw.toList.isEmpty = false) (w : World) : Calls Yba.prog 6 #[.agg #[.slice (some a) n cap, .string pw]] w fun e w' => ∃ t v, e = .returned (.tuple #[dec (.slice none 0 0) (.string ⟨#[]⟩), .iface t v]) ∧ Below w.heap.size w w' := by
  have q22 : ∀ (w : World) (a : Option Addr) (n c n' c' : Nat), (binOp .neq 22 (.slice a n c) (.slice none n' c')).run Yba.prog w = .ok (.bool (!a.isNone)) w := fun w a n c n' c' => run_neq_slice_nil_any w 22 5 a n c n' c' Yba.underlying22
  go_enter Yba.func6, Yba.ntmps6
  go_wp2
  refine bodyPost_ret (v := .tuple #[dec (.slice none 0 0) (.string ⟨#[]⟩), .iface 42 (.pointer (some ⟨w.heap.size + 1 + 1, 0, none⟩))]) (by simp [results, Yba.results6, go_sem, dec]) rfl ⟨_, _, rfl, ?_⟩
  exact ((((Below.refl _ w).alloc (Nat.le_refl _) _).alloc (by simp) _).alloc (by simp; omega) _)
theorem e25 (w : World) : (binOp .eql 25 .nilIface .nilIface).run Yba.prog w = .ok (.bool true) w := by kernel_rfl
theorem e26 (w : World) : (binOp .eql 26 .nilFunc .nilFunc).run Yba.prog w = .ok (.bool true) w := by kernel_rfl
theorem e27 (w : World) : (binOp .eql 27 (.pointer none) (.pointer none)).run Yba.prog w = .ok (.bool true) w := by kernel_rfl
theorem e29 (w : World) : (binOp .eql 29 .nilIface .nilIface).run Yba.prog w = .ok (.bool true) w := by kernel_rfl
set_option maxHeartbeats 1000000 in
set_option maxRecDepth 100000 in
theorem rest (k p : Value) (w : World) : Calls Yba.prog 7 #[dec k p] w fun e w' => e = .returned (.bool true) ∧ Below w.heap.size w w' := by
  have q22 : ∀ (w : World) (a : Option Addr) (n c n' c' : Nat), (binOp .eql 22 (.slice a n c) (.slice none n' c')).run Yba.prog w = .ok (.bool a.isNone) w := fun w a n c n' c' => Lib.run_eql_slice_nil w _ _ a n c n' c' Yba.underlying22
  have h25 := e25
  have h26 := e26
  have h27 := e27
  have h29 := e29
  unfold dec
  go_enter Yba.func7, Yba.ntmps7
  go_wp2
  go_ret
  exact ⟨rfl, (Below.refl _ w).alloc (Nat.le_refl _) _⟩
end Go.Proofs.Ybulkczge
