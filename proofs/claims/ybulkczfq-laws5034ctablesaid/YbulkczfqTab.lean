/-
  THE STATE OF runOf's LOOP: two logs, two sets, the struct that it makes, its table.
-/
import Derived.Test.YbulkczfqClos
namespace Go.Proofs.Ybulkczfq
open Go.RowKit

/-- the new table: 256 noughts -/
def Z47 : Array Value := Array.replicate 256 (.int .u8 0)
theorem zero47 (w : World) : (zeroValue 47).run Yba.prog w = .ok (.agg Z47) w := by kernel_rfl
/-- the runes 0 .. k - 1 -/
def seqI (k : Nat) : List Int := (List.range k).map Int.ofNat
theorem seqI_len (k : Nat) : (seqI k).length = k := by simp [seqI]
theorem seqI_succ (k : Nat) : seqI k ++ [(k : Int)] = seqI (k + 1) := by simp [seqI, List.range_succ]
theorem seqI_get (k j : Nat) (h : j < k) : (seqI k)[j]? = some (j : Int) := by simp [seqI, h]
/-- what the table holds of rune j -/
def tabV (s0 s1 t0 t1 : Int) (on : Bool) (j : Nat) : Int := (if bitB s0 s1 j = true then 1 else 0) + (if (on && bitB t0 t1 j) = true then 2 else 0)
def tabK (s0 s1 t0 t1 : Int) (on : Bool) (k j : Nat) : Int := if j < k then tabV s0 s1 t0 t1 on j else 0

structure Rs (w : World) (A lb1 lb2 sb1 sb2 : Nat) (s0 s1 t0 t1 : Int) (fv rv : Value) (wr : World) (T : Nat → Int) (ka1 : Option Addr) (kc1 : Nat) (ks1 : List Int) (ka2 : Option Addr) (kc2 : Nat) (ks2 : List Int) : Prop where
  log1 : Log wr lb1 (A + 2) ka1 kc1 ks1
  log2 : Log wr lb2 (A + 2) ka2 kc2 ks2
  dis : ∀ g, ownB ka1 = some g → ownB ka2 ≠ some g
  e0 : wr.cell? ⟨sb1, 0, none⟩ = some (.int .u64 s0)
  e1 : wr.cell? ⟨sb1, 1, none⟩ = some (.int .u64 s1)
  e2 : wr.cell? ⟨sb2, 0, none⟩ = some (.int .u64 t0)
  e3 : wr.cell? ⟨sb2, 1, none⟩ = some (.int .u64 t1)
  k0 : wr.cell? ⟨A + 1, 0, none⟩ = some fv
  k1 : wr.cell? ⟨A + 1, 1, none⟩ = some rv
  k2 : wr.cell? ⟨A + 1, 2, none⟩ = some (.pointer (some ⟨A, 0, none⟩))
  tab : ∀ j, j < 256 → wr.cell? ⟨A, j, none⟩ = some (.int .u8 (T j))
  fz : ∀ j, j < 256 → wr.frozen? ⟨A, j, none⟩ = false
  siz : A + 2 ≤ wr.heap.size
  fr : Fr (fun i => i = lb1 ∨ i = lb2 ∨ A ≤ i) w wr
section
variable {w : World} {A lb1 lb2 sb1 sb2 : Nat} {s0 s1 t0 t1 : Int} {fv rv : Value} {wr w' : World} {T : Nat → Int} {ka1 : Option Addr} {kc1 : Nat} {ks1 : List Int} {ka2 : Option Addr} {kc2 : Nat} {ks2 : List Int}
theorem Log.ge {lb base : Nat} {ka : Option Addr} {kc : Nat} {ks : List Int} (h : Log wr lb base ka kc ks) {g : Nat} (hg : ownB ka = some g) : base ≤ g ∧ g < wr.heap.size :=
  row_ge h.row (by rw [ownB_eq]; exact hg)
/-- whatever the first closure did -/
theorem Rs.call1 (h : Rs w A lb1 lb2 sb1 sb2 s0 s1 t0 t1 fv rv wr T ka1 kc1 ks1 ka2 kc2 ks2) (n1 : lb1 < A) (n2 : lb2 < A) (n3 : sb1 < A) (n4 : sb2 < A) (d1 : lb1 ≠ lb2) (d2 : sb1 ≠ lb1) (d3 : sb2 ≠ lb1)
    {ka' : Option Addr} {kc' : Nat} {ks' : List Int} (L : Log w' lb1 (A + 2) ka' kc' ks') (ho : ∀ g', ownB ka' = some g' → ownB ka1 = some g' ∨ wr.heap.size ≤ g') (hf : Fr (fun i => i = lb1 ∨ ownB ka1 = some i) wr w') :
    Rs w A lb1 lb2 sb1 sb2 s0 s1 t0 t1 fv rv w' T ka' kc' ks' ka2 kc2 ks2 := by
  have hsz := h.siz
  have hn : ∀ i, i < A + 2 → i ≠ lb1 → ¬ (i = lb1 ∨ ownB ka1 = some i) := fun i hi hne e => e.elim hne (fun e => by have := h.log1.ge e; omega)
  refine ⟨L, h.log2.keeps hf (hn _ (by omega) (Ne.symm d1)) (fun g hg e => ?_), fun g hg e => ?_, ?_, ?_, ?_, ?_, ?_, ?_, ?_, fun j hj => ?_, fun j hj => ?_, Nat.le_trans h.siz hf.size, ?_⟩
  · exact e.elim (fun e => by have := h.log2.ge hg; omega) (fun e => h.dis g e hg)
  · rcases ho g hg with h1 | h1
    · exact h.dis g h1 e
    · have := h.log2.ge e; omega
  · exact (hf.cell (by simp; omega) (hn _ (by simp; omega) d2)).trans h.e0
  · exact (hf.cell (by simp; omega) (hn _ (by simp; omega) d2)).trans h.e1
  · exact (hf.cell (by simp; omega) (hn _ (by simp; omega) d3)).trans h.e2
  · exact (hf.cell (by simp; omega) (hn _ (by simp; omega) d3)).trans h.e3
  · exact (hf.cell (by simp; omega) (hn _ (by simp) (by simp; omega))).trans h.k0
  · exact (hf.cell (by simp; omega) (hn _ (by simp) (by simp; omega))).trans h.k1
  · exact (hf.cell (by simp; omega) (hn _ (by simp) (by simp; omega))).trans h.k2
  · exact (hf.cell (by simp; omega) (hn _ (by simp) (by simp; omega))).trans (h.tab j hj)
  · exact (hf.frozen (by simp; omega) (hn _ (by simp) (by simp; omega))).trans (h.fz j hj)
  · exact h.fr.trans hf (fun i _ e => e.elim Or.inl (fun e => Or.inr (Or.inr (by have := h.log1.ge e; omega))))
/-- whatever the second closure did -/
theorem Rs.call2 (h : Rs w A lb1 lb2 sb1 sb2 s0 s1 t0 t1 fv rv wr T ka1 kc1 ks1 ka2 kc2 ks2) (n1 : lb1 < A) (n2 : lb2 < A) (n3 : sb1 < A) (n4 : sb2 < A) (d1 : lb1 ≠ lb2) (d2 : sb1 ≠ lb2) (d3 : sb2 ≠ lb2)
    {ka' : Option Addr} {kc' : Nat} {ks' : List Int} (L : Log w' lb2 (A + 2) ka' kc' ks') (ho : ∀ g', ownB ka' = some g' → ownB ka2 = some g' ∨ wr.heap.size ≤ g') (hf : Fr (fun i => i = lb2 ∨ ownB ka2 = some i) wr w') :
    Rs w A lb1 lb2 sb1 sb2 s0 s1 t0 t1 fv rv w' T ka1 kc1 ks1 ka' kc' ks' := by
  have hsz := h.siz
  have hn : ∀ i, i < A + 2 → i ≠ lb2 → ¬ (i = lb2 ∨ ownB ka2 = some i) := fun i hi hne e => e.elim hne (fun e => by have := h.log2.ge e; omega)
  refine ⟨h.log1.keeps hf (hn _ (by omega) d1) (fun g hg e => ?_), L, fun g hg e => ?_, ?_, ?_, ?_, ?_, ?_, ?_, ?_, fun j hj => ?_, fun j hj => ?_, Nat.le_trans h.siz hf.size, ?_⟩
  · exact e.elim (fun e => by have := h.log1.ge hg; omega) (fun e => h.dis g hg e)
  · rcases ho g e with h1 | h1
    · exact h.dis g hg h1
    · have := h.log1.ge hg; omega
  · exact (hf.cell (by simp; omega) (hn _ (by simp; omega) d2)).trans h.e0
  · exact (hf.cell (by simp; omega) (hn _ (by simp; omega) d2)).trans h.e1
  · exact (hf.cell (by simp; omega) (hn _ (by simp; omega) d3)).trans h.e2
  · exact (hf.cell (by simp; omega) (hn _ (by simp; omega) d3)).trans h.e3
  · exact (hf.cell (by simp; omega) (hn _ (by simp) (by simp; omega))).trans h.k0
  · exact (hf.cell (by simp; omega) (hn _ (by simp) (by simp; omega))).trans h.k1
  · exact (hf.cell (by simp; omega) (hn _ (by simp) (by simp; omega))).trans h.k2
  · exact (hf.cell (by simp; omega) (hn _ (by simp) (by simp; omega))).trans (h.tab j hj)
  · exact (hf.frozen (by simp; omega) (hn _ (by simp) (by simp; omega))).trans (h.fz j hj)
  · exact h.fr.trans hf (fun i _ e => e.elim (fun e => Or.inr (Or.inl e)) (fun e => Or.inr (Or.inr (by have := h.log2.ge e; omega))))
/-- a world that differs by draws alone -/
theorem Rs.drewN (h : Rs w A lb1 lb2 sb1 sb2 s0 s1 t0 t1 fv rv wr T ka1 kc1 ks1 ka2 kc2 ks2) (n : Nat) : Rs w A lb1 lb2 sb1 sb2 s0 s1 t0 t1 fv rv (wr.drewN n) T ka1 kc1 ks1 ka2 kc2 ks2 :=
  ⟨⟨h.log1.c, h.log1.f, h.log1.row⟩, ⟨h.log2.c, h.log2.f, h.log2.row⟩, h.dis, h.e0, h.e1, h.e2, h.e3, h.k0, h.k1, h.k2, h.tab, h.fz, h.siz, h.fr.trans (T := fun _ => False) ⟨rfl, rfl, rfl, Nat.le_refl _, fun _ _ _ => rfl⟩ (fun _ _ e => e.elim)⟩
/-- a new block -/
theorem Rs.alloc (h : Rs w A lb1 lb2 sb1 sb2 s0 s1 t0 t1 fv rv wr T ka1 kc1 ks1 ka2 kc2 ks2) (o : Obj) (n3 : sb1 < A) (n4 : sb2 < A) : Rs w A lb1 lb2 sb1 sb2 s0 s1 t0 t1 fv rv (wr.alloc o) T ka1 kc1 ks1 ka2 kc2 ks2 := by
  have hf := Fr.alloc wr o
  have hsz := h.siz
  exact ⟨h.log1.keeps hf id (fun _ _ => id), h.log2.keeps hf id (fun _ _ => id), h.dis, (hf.cell (by simp; omega) id).trans h.e0, (hf.cell (by simp; omega) id).trans h.e1, (hf.cell (by simp; omega) id).trans h.e2, (hf.cell (by simp; omega) id).trans h.e3,
    (hf.cell (by simp; omega) id).trans h.k0, (hf.cell (by simp; omega) id).trans h.k1, (hf.cell (by simp; omega) id).trans h.k2, fun j hj => (hf.cell (by simp; omega) id).trans (h.tab j hj), fun j hj => (hf.frozen (by simp; omega) id).trans (h.fz j hj), Nat.le_trans h.siz hf.size, h.fr.trans hf (fun _ _ e => e.elim)⟩
/-- a store into the table -/
theorem Rs.store (h : Rs w A lb1 lb2 sb1 sb2 s0 s1 t0 t1 fv rv wr T ka1 kc1 ks1 ka2 kc2 ks2) (n1 : lb1 < A) (n2 : lb2 < A) (n3 : sb1 < A) (n4 : sb2 < A) {k : Nat} (hk : k < 256) (v : Int) :
    Rs w A lb1 lb2 sb1 sb2 s0 s1 t0 t1 fv rv (wr.setCell ⟨A, k, none⟩ (.int .u8 v)) (fun j => if j = k then v else T j) ka1 kc1 ks1 ka2 kc2 ks2 := by
  have hf : Fr (fun i => i = A) wr (wr.setCell ⟨A, k, none⟩ (.int .u8 v)) := Fr.setCell wr ⟨A, k, none⟩ (.int .u8 v)
  have hsz := h.siz
  refine ⟨h.log1.keeps hf (by omega) (fun g hg e => by have := h.log1.ge hg; omega), h.log2.keeps hf (by omega) (fun g hg e => by have := h.log2.ge hg; omega), h.dis, (hf.cell (by simp; omega) (by simp; omega)).trans h.e0, (hf.cell (by simp; omega) (by simp; omega)).trans h.e1, (hf.cell (by simp; omega) (by simp; omega)).trans h.e2, (hf.cell (by simp; omega) (by simp; omega)).trans h.e3,
    (hf.cell (by simp; omega) (by simp)).trans h.k0, (hf.cell (by simp; omega) (by simp)).trans h.k1, (hf.cell (by simp; omega) (by simp)).trans h.k2, fun j hj => ?_, fun j hj => ?_, Nat.le_trans h.siz hf.size, h.fr.trans hf (fun i _ e => Or.inr (Or.inr (by omega)))⟩
  · by_cases e : j = k
    · subst e
      rw [World.cell?_setCell_same _ _ _ (h.tab j hj), if_pos rfl]
    · rw [World.cell?_setCell_other _ _ _ _ (by intro h; cases h; exact e rfl), h.tab j hj, if_neg e]
  · rw [World.frozen?_setCell]; exact h.fz j hj
theorem Rs.tabs (h : Rs w A lb1 lb2 sb1 sb2 s0 s1 t0 t1 fv rv wr T ka1 kc1 ks1 ka2 kc2 ks2) {T' : Nat → Int} (e : ∀ j, j < 256 → T j = T' j) : Rs w A lb1 lb2 sb1 sb2 s0 s1 t0 t1 fv rv wr T' ka1 kc1 ks1 ka2 kc2 ks2 :=
  ⟨h.log1, h.log2, h.dis, h.e0, h.e1, h.e2, h.e3, h.k0, h.k1, h.k2, fun j hj => by rw [← e j hj]; exact h.tab j hj, h.fz, h.siz, h.fr⟩
end
end Go.Proofs.Ybulkczfq
