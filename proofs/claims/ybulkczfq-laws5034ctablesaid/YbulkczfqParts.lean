/-
  PARTS: a frame for worlds that name the blocks that may have turned; what 'lows.set' makes of a map as read. No walk.
-/
import Derived.Test.YbulkczfqRows
import Derived.WalkKit
import Derived.WalkSpells
import Derived.WalkLawsBesides
import Derived.Maps.RangeWalk
import Derived.Maps.OwnSet
import Derived.Maps.Ext
namespace Go.Proofs.Ybulkczfq
open Go.RowKit Go.Maps

/-- Of what was there nothing has turned but what lies in the blocks S. -/
structure Fr (S : Nat → Prop) (w w' : World) : Prop where
  os : w'.os = w.os
  tape : w'.tape = w.tape
  output : w'.output = w.output
  size : w.heap.size ≤ w'.heap.size
  block : ∀ i, i < w.heap.size → ¬ S i → w'.heap[i]? = w.heap[i]?
theorem Fr.refl (S : Nat → Prop) (w : World) : Fr S w w := ⟨rfl, rfl, rfl, Nat.le_refl _, fun _ _ _ => rfl⟩
theorem Fr.trans {S T : Nat → Prop} {a b c : World} (h : Fr S a b) (k : Fr T b c) (hT : ∀ i, i < a.heap.size → T i → S i) : Fr S a c :=
  ⟨k.os.trans h.os, k.tape.trans h.tape, k.output.trans h.output, Nat.le_trans h.size k.size, fun i hi hn => (k.block i (Nat.lt_of_lt_of_le hi h.size) (fun ht => hn (hT i hi ht))).trans (h.block i hi hn)⟩
theorem Fr.mono {S T : Nat → Prop} {a b : World} (h : Fr S a b) (hT : ∀ i, S i → T i) : Fr T a b :=
  ⟨h.os, h.tape, h.output, h.size, fun i hi hn => h.block i hi (fun hs => hn (hT i hs))⟩
theorem Fr.of_grown {w w' : World} {row : Option Nat} (h : w.grownBy w' row) : Fr (fun i => some i = row) w w' := ⟨h.os, h.tape, h.output, h.size, h.block⟩
theorem Fr.cell {S : Nat → Prop} {w w' : World} (h : Fr S w w') {a : Addr} (ha : a.block < w.heap.size) (hs : ¬ S a.block) : w'.cell? a = w.cell? a := World.cell?_of_block (h.block _ ha hs)
theorem Fr.frozen {S : Nat → Prop} {w w' : World} (h : Fr S w w') {a : Addr} (ha : a.block < w.heap.size) (hs : ¬ S a.block) : w'.frozen? a = w.frozen? a := World.frozen?_of_block (h.block _ ha hs)
theorem Fr.below {S : Nat → Prop} {w w' : World} (h : Fr S w w') {B : Nat} (hB : B ≤ w.heap.size) (hs : ∀ i, i < B → ¬ S i) : Below B w w' := ⟨h.os, h.tape, h.output, h.size, fun i hi => h.block i (by omega) (hs i hi)⟩
theorem Fr.setCell (w : World) (a : Addr) (v : Value) : Fr (fun i => i = a.block) w (w.setCell a v) :=
  ⟨by simp [World.setCell], by simp [World.setCell], by simp [World.setCell], by simp, fun i _ hn => RowKit.Below.heap_setCell _ _ _ _ hn⟩
theorem Fr.alloc (w : World) (o : Obj) : Fr (fun _ => False) w (w.alloc o) := (Fr.of_grown (World.grownBy_alloc w o none)).mono (fun _ h => by cases h)
theorem Fr.ownsMap {H : Type} {P : Program} {k : TypeId} {R : Value → Option (DataW H × List MemPlace)} {b n : Nat} {D : DataW H} {S : Nat → Prop} {w w' : World} (h : Fr S w w') (ho : w.ownsMap P k R b n D) (hs : ¬ S b) : w'.ownsMap P k R b n D := by
  have hlt := ho.lt
  obtain ⟨es, clock, hb, r⟩ := ho
  exact ⟨es, clock, by rw [h.block b hlt hs]; exact hb, r⟩
theorem lt_of_block {w : World} {i : Nat} {o : Obj} (h : w.heap[i]? = some o) : i < w.heap.size := (Array.getElem?_eq_some_iff.1 h).1
theorem lt_of_cell {w : World} {a : Addr} {v : Value} (h : w.cell? a = some v) : a.block < w.heap.size := by
  unfold World.cell? at h
  cases hb : w.heap[a.block]? with
  | none => simp [hb] at h
  | some o => exact lt_of_block hb
theorem Fr.ownsRow {base : Nat} {e : TypeId} {size : Nat} {v : Value} {n : Nat} {xs : List Value} {S : Nat → Prop} {w w' : World} (h : Fr S w w') (ho : w.ownsRow base e size v n xs) (hs : ∀ g, v.ownBlock = some g → ¬ S g) : w'.ownsRow base e size v n xs := by
  obtain ⟨hl, ho⟩ := ho
  refine ⟨hl, ho.imp id ?_⟩
  rintro ⟨g, cap, cur, rfl, hb, hg, r⟩
  exact ⟨g, cap, cur, rfl, hb, by rw [h.block g (lt_of_block hg) (hs g rfl)]; exact hg, r⟩
/-- a map is no row of cells -/
theorem map_ne_cell {H : Type} {P : Program} {k : TypeId} {R : Value → Option (DataW H × List MemPlace)} {b n : Nat} {D : DataW H} {w : World} (ho : w.ownsMap P k R b n D) {a : Addr} {v : Value} (hc : w.cell? a = some v) : b ≠ a.block := by
  rintro rfl
  obtain ⟨es, clock, hb, _⟩ := ho
  simp [World.cell?, hb] at hc
theorem map_ne_row {H : Type} {P : Program} {k : TypeId} {R : Value → Option (DataW H × List MemPlace)} {b n : Nat} {D : DataW H} {w : World} (ho : w.ownsMap P k R b n D) {base : Nat} {e : TypeId} {size : Nat} {v : Value} {m : Nat} {xs : List Value} (hr : w.ownsRow base e size v m xs) {g : Nat} (hv : v.ownBlock = some g) : b ≠ g := by
  rintro rfl
  obtain ⟨es, clock, hb, _⟩ := ho
  obtain ⟨_, h⟩ := hr
  rcases h with ⟨rfl, _⟩ | ⟨g', cap, cur, rfl, _, hg, _⟩
  · cases hv
  · cases hv
    rw [hb] at hg
    cases hg
/-- a row that is owned lies from its base on -/
theorem row_ge {base : Nat} {e : TypeId} {size : Nat} {v : Value} {m : Nat} {xs : List Value} {w : World} (hr : w.ownsRow base e size v m xs) {g : Nat} (hv : v.ownBlock = some g) : base ≤ g ∧ g < w.heap.size := by
  obtain ⟨_, h⟩ := hr
  rcases h with ⟨rfl, _⟩ | ⟨g', cap, cur, rfl, hb, hg, _⟩
  · cases hv
  · cases hv
    exact ⟨hb, lt_of_block hg⟩

/-! ### what 'set' makes of a map as read -/
/-- a key below base -/
def lowKey (base : Int) : Lit → Bool
  | .int _ x => decide (x < base)
  | _ => false
/-- the keys below base are dropped -/
def sweep (base : Int) : DataW Unit → DataW Unit
  | .map es => .map (es.filter fun p => !lowKey base p.1)
  | d => d
/-- the keys below base that have come are dropped -/
def sweepTo (base : Int) (es : List (Lit × DataW Unit)) (left : Lit → Bool) : DataW Unit := .map (es.filter fun p => !lowKey base p.1 || left p.1)
theorem sweepTo_start {base : Int} {es : List (Lit × DataW Unit)} (hk : ∀ p ∈ es, WideAt.IsKeyLit p.1) : sweepTo base es (Maps.has (.map es)) = .map es := by
  unfold sweepTo
  congr 1
  rw [List.filter_eq_self]
  intro p hp
  have : Maps.has (.map es) p.1 = true := List.any_eq_true.2 ⟨p, hp, WideAt.sameKey_self (hk p hp)⟩
  rw [this]; simp
theorem sweepTo_end {base : Int} {es : List (Lit × DataW Unit)} {left : Lit → Bool} (hl : ∀ k, left k = false) : sweepTo base es left = sweep base (.map es) := by
  unfold sweepTo sweep
  congr 1
  refine List.filter_congr fun p _ => ?_
  rw [hl]; simp
/-- a key below base has come and is struck -/
theorem sweepTo_struck {base : Int} {es : List (Lit × DataW Unit)} {left : Lit → Bool} {kl : Lit} (hlow : lowKey base kl = true) :
    (sweepTo base es left).del kl = sweepTo base es (fun z => left z && !z.sameKey kl) := by
  show DataW.map ((es.filter fun p => !lowKey base p.1 || left p.1).filter fun p => !p.1.sameKey kl) = _
  unfold sweepTo
  rw [List.filter_filter]
  congr 1
  refine List.filter_congr fun p _ => ?_
  cases hs : p.1.sameKey kl
  · simp [hs]
  · have h1 : lowKey base p.1 = true := by rw [WideAt.sameKey_eq hs]; exact hlow
    simp [hs, h1]
/-- a key that is not below base has come and stays -/
theorem sweepTo_stays {base : Int} {es : List (Lit × DataW Unit)} {left : Lit → Bool} {kl : Lit} (hlow : lowKey base kl = false) :
    sweepTo base es left = sweepTo base es (fun z => left z && !z.sameKey kl) := by
  unfold sweepTo
  congr 1
  refine List.filter_congr fun p _ => ?_
  cases hs : p.1.sameKey kl
  · simp [hs]
  · have h1 : lowKey base p.1 = false := by rw [WideAt.sameKey_eq hs]; exact hlow
    simp [h1]
/-- behind one set: the map -/
def setD (D : DataW Unit) (kept : Nat) (e low base : Int) : DataW Unit :=
  if 2 * kept + 64 < Maps.size (D.put (.int .i64 e) (.lit (.int .i64 low))) then sweep base (D.put (.int .i64 e) (.lit (.int .i64 low))) else D.put (.int .i64 e) (.lit (.int .i64 low))
/-- behind one set: the count kept -/
def setK (D : DataW Unit) (kept : Nat) (e low base : Int) : Nat :=
  if 2 * kept + 64 < Maps.size (D.put (.int .i64 e) (.lit (.int .i64 low))) then Maps.size (sweep base (D.put (.int .i64 e) (.lit (.int .i64 low)))) else kept

theorem law2 : Keyed Yba.prog 2 := int_keyed Yba.underlying2
theorem zero2 (w : World) : (zeroValue 2).run Yba.prog w = .ok (.int .i64 0) w := by kernel_rfl
end Go.Proofs.Ybulkczfq
