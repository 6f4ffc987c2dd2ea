/-
  THE WALKS OF zzs5034cbit AND OF THE LAW's TWO CLOSURES.
-/
import Derived.Test.YbulkczfqParts
import Derived.BigQuiet
import Derived.Deep.QuietTactic
import Derived.BigRegion
import Derived.Deep.AppendLies
import Derived.OwnWalk
import Derived.Maps.AppendAt
import Derived.OpenShut
import Derived.Laws.Bits64b
namespace Go.Proofs.Ybulkczfq
open Go.RowKit

/-- the bit that zzs5034cbit looks at -/
def bitW (s r : Int) : Bool := bits .and .u64 (s / 2 ^ (bits .and .u64 r 63).toNat) 1 == 1
def bitB (s0 s1 r : Int) : Bool := if r < 64 then bitW s0 r else bitW s1 r
theorem mask63 (r : Int) (h0 : 0 ≤ r) (h1 : r < 128) : 0 ≤ bits .and .u64 r 63 ∧ bits .and .u64 r 63 < 64 := by
  obtain ⟨n, rfl⟩ := Int.eq_ofNat_of_zero_le h0
  have h := bits_and_u64_nat n 63 (by omega) (by omega)
  have e : n &&& 63 = n % 64 := Nat.and_two_pow_sub_one_eq_mod n 6
  rw [e] at h
  have h' : bits .and .u64 (n : Int) 63 = ((n % 64 : Nat) : Int) := h
  rw [h']
  omega

set_option maxHeartbeats 400000 in
theorem bit_any (s0 s1 r : Int) (w : World) (h0 : 0 ≤ r) (h1 : r < 128) :
    Calls Yba.prog 9 #[.agg #[.int .u64 s0, .int .u64 s1], .int .i32 r] w fun e w' => e = .returned (.bool (bitB s0 s1 r)) ∧ w' = w.alloc (.cells #[.int .u64 s0, .int .u64 s1] 35) := by
  have h2 : ¬ 128 ≤ r := by omega
  have h00 : ¬ r < 0 := by omega
  obtain ⟨m0, m1⟩ := mask63 r h0 h1
  obtain ⟨c, hc⟩ : ∃ c, bits .and .u64 r 63 = c := ⟨_, rfl⟩
  rw [hc] at m0 m1
  by_cases h64 : r < 64
  · have e1 : bitB s0 s1 r = (bits .and .u64 (s0 / 2 ^ c.toNat) 1 == 1) := by unfold bitB bitW; rw [if_pos h64, hc]
    have h3 : r / 64 = 0 := by omega
    rw [e1]
    clear e1
    go_enter Yba.func9, Yba.ntmps9
    go_wp2
    go_ret
    exact ⟨rfl, rfl⟩
  · have e1 : bitB s0 s1 r = (bits .and .u64 (s1 / 2 ^ c.toNat) 1 == 1) := by unfold bitB bitW; rw [if_neg h64, hc]
    have h3 : r / 64 = 1 := by omega
    rw [e1]
    clear e1
    go_enter Yba.func9, Yba.ntmps9
    go_wp2
    go_ret
    exact ⟨rfl, rfl⟩

theorem info21 : (Yba.prog.info? 21).map (fun i => (i.zero, i.size, i.bytes)) = some (some (.int .i32 0), 1, 4) := by kernel_rfl

/-- what the append has left of the closure's variables -/
theorem clos_facts {lb sb base n : Nat} {v : Value} {xs : List Value} {s0 s1 : Int} {w w2 : World} {o : Obj} {u : Value}
   (cl : w.cell? ⟨lb, 0, none⟩ = some u) (fl : w.frozen? ⟨lb, 0, none⟩ = false) (row : w.ownsRow base 21 1 v n xs)
   (c0 : w.cell? ⟨sb, 0, none⟩ = some (.int .u64 s0)) (c1 : w.cell? ⟨sb, 1, none⟩ = some (.int .u64 s1)) (hlb : lb < base) (hsb : sb < base) (hg : (w.alloc o).grownBy w2 v.ownBlock) :
    w2.cell? ⟨lb, 0, none⟩ = some u ∧ w2.frozen? ⟨lb, 0, none⟩ = false ∧ w2.cell? ⟨sb, 0, none⟩ = some (.int .u64 s0) ∧ w2.cell? ⟨sb, 1, none⟩ = some (.int .u64 s1) ∧ Fr (fun i => v.ownBlock = some i) w w2 ∧ w.heap.size ≤ w2.heap.size := by
  have hf : Fr (fun i => v.ownBlock = some i) w w2 := ((Fr.alloc w o).mono (fun _ h => h.elim)).trans (Fr.of_grown hg) (fun i _ h => h.symm)
  have n1 : ¬ v.ownBlock = some lb := fun e => by have := row_ge row e; omega
  have n2 : ¬ v.ownBlock = some sb := fun e => by have := row_ge row e; omega
  have l1 : lb < w.heap.size := lt_of_cell cl
  have l2 : sb < w.heap.size := lt_of_cell c0
  exact ⟨(hf.cell l1 n1).trans cl, (hf.frozen l1 n1).trans fl, (hf.cell l2 n2).trans c0, (hf.cell l2 n2).trans c1, hf, hf.size⟩

/-- the log in block lb: the slice of the runes seen -/
structure Log (w : World) (lb base : Nat) (ka : Option Addr) (kc : Nat) (ks : List Int) : Prop where
  c : w.cell? ⟨lb, 0, none⟩ = some (.slice ka ks.length kc)
  f : w.frozen? ⟨lb, 0, none⟩ = false
  row : w.ownsRow base 21 1 (.slice ka ks.length kc) ks.length (ks.map (Value.int .i32))
/-- the block of a slice's row -/
def ownB (ka : Option Addr) : Option Nat := ka.map Addr.block
theorem ownB_eq (ka : Option Addr) (n c : Nat) : (Value.slice ka n c).ownBlock = ownB ka := by cases ka <;> rfl
theorem Log.keeps {w w' : World} {lb base : Nat} {ka : Option Addr} {kc : Nat} {ks : List Int} {S : Nat → Prop} (h : Log w lb base ka kc ks) (hf : Fr S w w') (h1 : ¬ S lb) (h2 : ∀ g, ownB ka = some g → ¬ S g) : Log w' lb base ka kc ks :=
  ⟨(hf.cell (lt_of_cell h.c) h1).trans h.c, (hf.frozen (lt_of_cell h.c) h1).trans h.f, hf.ownsRow h.row (fun g hg => h2 g (by rw [← ownB_eq ka ks.length kc]; exact hg))⟩
/-- behind the store into the log -/
theorem clos_end {lb base g gc : Nat} {r : Int} {ka : Option Addr} {kc : Nat} {ks : List Int} {w w2 : World} {o : Obj} (hlb : lb < base)
    (hf2 : Fr (fun i => (Value.slice ka ks.length kc).ownBlock = some i) w w2) (d1 : w2.cell? ⟨lb, 0, none⟩ = some (.slice ka ks.length kc)) (d2 : w2.frozen? ⟨lb, 0, none⟩ = false)
    (hown2 : w2.ownsRow base 21 1 (.slice (some ⟨g, 0, none⟩) (ks.length + 1) gc) (ks.length + 1) (ks.map (Value.int .i32) ++ [.int .i32 r])) (hat2 : (Value.slice ka ks.length kc).ownBlock = some g ∨ g = w.heap.size + 1) :
    ∃ ka' kc', Log ((w2.setCell ⟨lb, 0, none⟩ (.slice (some ⟨g, 0, none⟩) (ks.length + 1) gc)).alloc o) lb base ka' kc' (ks ++ [r]) ∧ (∀ g', ownB ka' = some g' → ownB ka = some g' ∨ w.heap.size ≤ g') ∧
      Fr (fun i => i = lb ∨ ownB ka = some i) w ((w2.setCell ⟨lb, 0, none⟩ (.slice (some ⟨g, 0, none⟩) (ks.length + 1) gc)).alloc o) := by
  have hs := Fr.setCell w2 ⟨lb, 0, none⟩ (.slice (some ⟨g, 0, none⟩) (ks.length + 1) gc)
  have ha := Fr.alloc (w2.setCell ⟨lb, 0, none⟩ (.slice (some ⟨g, 0, none⟩) (ks.length + 1) gc)) o
  have l2 : lb < w2.heap.size := lt_of_cell d1
  have hge := row_ge hown2 rfl
  have hsz : lb < (w2.setCell ⟨lb, 0, none⟩ (.slice (some ⟨g, 0, none⟩) (ks.length + 1) gc)).heap.size := by simpa using l2
  have hge' : base ≤ g := hge.1
  refine ⟨some ⟨g, 0, none⟩, gc, ⟨?_, ?_, ?_⟩, ?_, ?_⟩
  · rw [ha.cell hsz id, World.cell?_setCell_same _ _ _ d1]; simp
  · rw [ha.frozen hsz id, World.frozen?_setCell]; exact d2
  · have := ha.ownsRow (hs.ownsRow hown2 (fun g' hg' e => by cases hg'; simp only at e; omega)) (fun _ _ => id)
    simpa using this
  · intro g' hg'
    cases hg'
    rw [ownB_eq] at hat2
    exact hat2.imp id (fun e => by show w.heap.size ≤ g; omega)
  · refine Fr.trans (S := fun i => i = lb ∨ ownB ka = some i) (Fr.trans (hf2.mono (fun i hi => Or.inr (by rw [← ownB_eq ka ks.length kc]; exact hi))) hs (fun i _ e => Or.inl e)) ha (fun _ _ e => e.elim)

set_option maxHeartbeats 400000 in
set_option maxRecDepth 100000 in
theorem clos8 (lb sb base : Nat) (s0 s1 r : Int) (ka : Option Addr) (kc : Nat) (ks : List Int) (w : World) (h0 : 0 ≤ r) (h1 : r < 128) (hl : ks.length ≤ 200)
   (h : Log w lb base ka kc ks) (c0 : w.cell? ⟨sb, 0, none⟩ = some (.int .u64 s0)) (c1 : w.cell? ⟨sb, 1, none⟩ = some (.int .u64 s1)) (hlb : lb < base) (hsb : sb < base) (hne : sb ≠ lb) (hbase : base ≤ w.heap.size) :
    Calls Yba.prog 8 #[.int .i32 r, .pointer (some ⟨lb, 0, none⟩), .pointer (some ⟨sb, 0, none⟩)] w fun e w' => e = .returned (.bool (bitB s0 s1 r)) ∧
      ∃ ka' kc', Log w' lb base ka' kc' (ks ++ [r]) ∧ (∀ g', ownB ka' = some g' → ownB ka = some g' ∨ w.heap.size ≤ g') ∧ Fr (fun i => i = lb ∨ ownB ka = some i) w w' := by
  obtain ⟨i0, hi, hz0, hz1, hz2⟩ := info_parts info21
  obtain ⟨cl, fl, row⟩ := h
  go_enter Yba.func8, Yba.ntmps8
  go_wp2_with (first
    | (at_builtin; refine wpList_append_lies _ rfl _ _ 36 rfl base 21 i0 (.int .i32 0) 1 4 Yba.underlying36 hi hz0 hz1 hz2 rfl (by decide) (.slice ka ks.length kc) ks.length (ks.map (Value.int .i32)) rfl (row.alloc _) ⟨w.heap.size, 0, none⟩ 1 1 [.int .i32 r] rfl rfl (cell_one_new _ _ _) (ints_oneCell .i32 [r]) (by decide) (by unfold maxLen; omega) (by omega) (by simp; omega) _ rfl ?_; intro g gc w2 hown2 hgrow2 hat2 hlt2; obtain ⟨d1, d2, d3, d4, hf2, hz⟩ := clos_facts cl fl row c0 c1 hlb hsb hgrow2)
    | (go_at_call 9; refine (bit_any s0 s1 r _ h0 h1).mono ?_; rintro e w' ⟨rfl, rfl⟩))
  go_ret
  exact ⟨rfl, clos_end hlb hf2 d1 d2 hown2 (by simpa using hat2)⟩

set_option maxHeartbeats 400000 in
set_option maxRecDepth 100000 in
theorem clos10 (lb sb base : Nat) (s0 s1 r : Int) (ka : Option Addr) (kc : Nat) (ks : List Int) (w : World) (h0 : 0 ≤ r) (h1 : r < 128) (hl : ks.length ≤ 200)
   (h : Log w lb base ka kc ks) (c0 : w.cell? ⟨sb, 0, none⟩ = some (.int .u64 s0)) (c1 : w.cell? ⟨sb, 1, none⟩ = some (.int .u64 s1)) (hlb : lb < base) (hsb : sb < base) (hne : sb ≠ lb) (hbase : base ≤ w.heap.size) :
    Calls Yba.prog 10 #[.int .i32 r, .pointer (some ⟨lb, 0, none⟩), .pointer (some ⟨sb, 0, none⟩)] w fun e w' => e = .returned (.bool (bitB s0 s1 r)) ∧
      ∃ ka' kc', Log w' lb base ka' kc' (ks ++ [r]) ∧ (∀ g', ownB ka' = some g' → ownB ka = some g' ∨ w.heap.size ≤ g') ∧ Fr (fun i => i = lb ∨ ownB ka = some i) w w' := by
  obtain ⟨i0, hi, hz0, hz1, hz2⟩ := info_parts info21
  obtain ⟨cl, fl, row⟩ := h
  go_enter Yba.func10, Yba.ntmps10
  go_wp2_with (first
    | (at_builtin; refine wpList_append_lies _ rfl _ _ 36 rfl base 21 i0 (.int .i32 0) 1 4 Yba.underlying36 hi hz0 hz1 hz2 rfl (by decide) (.slice ka ks.length kc) ks.length (ks.map (Value.int .i32)) rfl (row.alloc _) ⟨w.heap.size, 0, none⟩ 1 1 [.int .i32 r] rfl rfl (cell_one_new _ _ _) (ints_oneCell .i32 [r]) (by decide) (by unfold maxLen; omega) (by omega) (by simp; omega) _ rfl ?_; intro g gc w2 hown2 hgrow2 hat2 hlt2; obtain ⟨d1, d2, d3, d4, hf2, hz⟩ := clos_facts cl fl row c0 c1 hlb hsb hgrow2)
    | (go_at_call 9; refine (bit_any s0 s1 r _ h0 h1).mono ?_; rintro e w' ⟨rfl, rfl⟩))
  go_ret
  exact ⟨rfl, clos_end hlb hf2 d1 d2 hown2 (by simpa using hat2)⟩

end Go.Proofs.Ybulkczfq
