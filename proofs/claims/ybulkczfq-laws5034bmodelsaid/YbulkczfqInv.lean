/-
  THE MODEL's PLAIN SIDE: the list of keys against the map as read; one contract for 'set'; the bundle that the law's loops carry.
-/
import Derived.Test.YbulkczfqSet
import Derived.OwnWalk
import Derived.Maps.AppendAt
namespace Go.Proofs.Ybulkczfq
open Go.RowKit Go.Maps

/-! ### keys and map -/
/-- the list tells just the keys of the map -/
def Inv (ks : List Int) (D : DataW Unit) : Prop := ∃ es, D = .map es ∧ (∀ p ∈ es, ∃ x ∈ ks, p.1 = .int .i64 x) ∧ ∀ x ∈ ks, Maps.has D (.int .i64 x) = true
theorem Inv.start : Inv [] (.map []) := ⟨[], rfl, fun p hp => (by cases hp), fun x hx => (by cases hx)⟩
theorem mem_insert {x p : Lit × DataW Unit} : ∀ l : List (Lit × DataW Unit), p ∈ DataW.insert x l → p = x ∨ p ∈ l
  | [], h => by simp [DataW.insert] at h; exact Or.inl h
  | y :: r, h => by
    unfold DataW.insert at h
    split at h
    · simpa using h
    · rcases List.mem_cons.1 h with h | h
      · exact Or.inr (by simp [h])
      · rcases mem_insert r h with h | h
        · exact Or.inl h
        · exact Or.inr (by simp [h])
theorem has_mem {es : List (Lit × DataW Unit)} {k : Lit} (h : Maps.has (.map es) k = true) : ∃ p ∈ es, p.1 = k := by
  obtain ⟨p, hp, hs⟩ := List.any_eq_true.1 h
  exact ⟨p, hp, WideAt.sameKey_eq hs⟩
theorem Inv.mem {ks : List Int} {D : DataW Unit} (h : Inv ks D) {e : Int} (hh : Maps.has D (.int .i64 e) = true) : e ∈ ks := by
  obtain ⟨es, rfl, h1, _⟩ := h
  obtain ⟨p, hp, he⟩ := has_mem hh
  obtain ⟨x, hx, hpx⟩ := h1 p hp
  rw [he] at hpx
  cases hpx
  exact hx
theorem Inv.put {ks ks' : List Int} {D : DataW Unit} (h : Inv ks D) (e low : Int) (hs : ∀ x, x ∈ ks' ↔ x ∈ ks ∨ x = e) : Inv ks' (D.put (.int .i64 e) (.lit (.int .i64 low))) := by
  obtain ⟨es, rfl, h1, h2⟩ := h
  refine ⟨_, rfl, fun p hp => ?_, fun x hx => ?_⟩
  · rcases mem_insert _ hp with rfl | hp
    · exact ⟨e, (hs e).2 (Or.inr rfl), rfl⟩
    · obtain ⟨x, hx, hpx⟩ := h1 p (List.mem_filter.1 hp).1
      exact ⟨x, (hs x).2 (Or.inl hx), hpx⟩
  · by_cases hxe : x = e
    · subst hxe
      exact Maps.has_put_same ⟨_, rfl⟩ (by trivial) _
    · rw [Maps.has_put_other (by intro h; cases h; exact hxe rfl)]
      exact h2 x (((hs x).1 hx).resolve_right hxe)
theorem Inv.put_old {ks : List Int} {D : DataW Unit} (h : Inv ks D) {e low : Int} (hh : Maps.has D (.int .i64 e) = true) : Inv ks (D.put (.int .i64 e) (.lit (.int .i64 low))) :=
  h.put e low (fun _ => ⟨Or.inl, fun hx => hx.elim id (fun he => he ▸ h.mem hh)⟩)
theorem Inv.put_new {ks : List Int} {D : DataW Unit} (h : Inv ks D) {e low : Int} : Inv (ks ++ [e]) (D.put (.int .i64 e) (.lit (.int .i64 low))) :=
  h.put e low (fun _ => by simp)

def keep (base : Int) (ks : List Int) : List Int := ks.filter fun x => !decide (x < base)
theorem Inv.sweep {ks : List Int} {D : DataW Unit} (h : Inv ks D) (base : Int) : Inv (keep base ks) (sweep base D) := by
  obtain ⟨es, rfl, h1, h2⟩ := h
  refine ⟨_, rfl, fun p hp => ?_, fun x hx => ?_⟩
  · obtain ⟨hp1, hp2⟩ := List.mem_filter.1 hp
    obtain ⟨x, hx, hpx⟩ := h1 p hp1
    refine ⟨x, List.mem_filter.2 ⟨hx, ?_⟩, hpx⟩
    rw [hpx] at hp2
    exact hp2
  · obtain ⟨hx1, hx2⟩ := List.mem_filter.1 hx
    obtain ⟨p, hp, hpk⟩ := has_mem (h2 x hx1)
    refine List.any_eq_true.2 ⟨p, List.mem_filter.2 ⟨hp, ?_⟩, ?_⟩
    · rw [hpk]; exact hx2
    · rw [hpk]; exact WideAt.sameKey_self (by trivial)

/-- the model's own sweep: key by key -/
def delLow (base : Int) (ks : List Int) (D : DataW Unit) : DataW Unit := ks.foldl (fun D x => if x < base then D.del (.int .i64 x) else D) D
theorem delLow_snoc (base : Int) (ks : List Int) (x : Int) (D : DataW Unit) : delLow base (ks ++ [x]) D = if x < base then (delLow base ks D).del (.int .i64 x) else delLow base ks D := by
  simp [delLow, List.foldl_append]
theorem delLow_map (base : Int) : ∀ (ks : List Int) (es : List (Lit × DataW Unit)), delLow base ks (.map es) = .map (es.filter fun p => !(ks.any fun x => decide (x < base) && p.1.sameKey (.int .i64 x)))
  | [], es => by
    show DataW.map es = _
    congr 1
    exact (List.filter_eq_self.2 (fun _ _ => rfl)).symm
  | x :: ks, es => by
    show delLow base ks (if x < base then (DataW.map es).del (.int .i64 x) else .map es) = _
    split
    · rename_i hlt
      show delLow base ks (.map (es.filter fun p => !p.1.sameKey (.int .i64 x))) = _
      rw [delLow_map base ks, List.filter_filter]
      congr 1
      refine List.filter_congr fun p _ => ?_
      simp [hlt, Bool.and_comm]
    · rename_i hlt
      rw [delLow_map base ks]
      congr 1
      refine List.filter_congr fun p _ => ?_
      simp [hlt]
theorem Inv.delLow {ks : List Int} {D : DataW Unit} (h : Inv ks D) (base : Int) : delLow base ks D = Ybulkczfq.sweep base D := by
  obtain ⟨es, rfl, h1, _⟩ := h
  rw [delLow_map]
  show _ = DataW.map _
  congr 1
  refine List.filter_congr fun p hp => ?_
  obtain ⟨x, hx, hpx⟩ := h1 p hp
  congr 1
  rw [hpx]
  show _ = decide (x < base)
  rw [Bool.eq_iff_iff, List.any_eq_true]
  constructor
  · rintro ⟨y, _, hy⟩
    simp [Lit.sameKey] at hy ⊢
    omega
  · intro hlt
    exact ⟨x, hx, by simp [Lit.sameKey] at hlt ⊢; exact hlt⟩
theorem keep_snoc (base : Int) (ks : List Int) (x : Int) : keep base (ks ++ [x]) = if x < base then keep base ks else keep base ks ++ [x] := by
  unfold keep
  rw [List.filter_append]
  by_cases h : x < base <;> simp [h]
theorem keep_len (base : Int) (ks : List Int) : (keep base ks).length ≤ ks.length := List.length_filter_le _ _

/-! ### one contract for 'set' -/
/-- the lows at block sb: its map (none: not made yet), its count -/
structure Lows (w : World) (sb : Nat) (r : Option Nat) (n : Nat) (D : DataW Unit) (kept : Nat) : Prop where
  c0 : w.cell? ⟨sb, 0, none⟩ = some (.map r)
  c1 : w.cell? ⟨sb, 1, none⟩ = some (.int .i64 kept)
  f0 : w.frozen? ⟨sb, 0, none⟩ = false
  f1 : w.frozen? ⟨sb, 1, none⟩ = false
  nil : r = none → D = .map [] ∧ kept = 0
  own : ∀ bm, r = some bm → w.ownsMap Yba.prog 2 (plainElem Yba.prog 2) bm n D
theorem Lows.lt {w : World} {sb : Nat} {r : Option Nat} {n : Nat} {D : DataW Unit} {kept : Nat} (h : Lows w sb r n D kept) : sb < w.heap.size := lt_of_cell h.c0
theorem Lows.keeps {w w' : World} {sb : Nat} {r : Option Nat} {n : Nat} {D : DataW Unit} {kept : Nat} {S : Nat → Prop} (h : Lows w sb r n D kept) (hf : Fr S w w') (h1 : ¬ S sb) (h2 : ∀ bm, r = some bm → ¬ S bm) : Lows w' sb r n D kept :=
  ⟨(hf.cell h.lt h1).trans h.c0, (hf.cell h.lt h1).trans h.c1, (hf.frozen h.lt h1).trans h.f0, (hf.frozen h.lt h1).trans h.f1, h.nil, fun bm hb => hf.ownsMap (h.own bm hb) (h2 bm hb)⟩

theorem set_any (sb : Nat) (r : Option Nat) (n kept : Nat) (D : DataW Unit) (x low base : Int) (w : World) (h : Lows w sb r n D kept) (hx : (Lit.int .i64 x).wf = true) (hlow : (Lit.int .i64 low).wf = true) (hn : n ≤ 1000000) (hk : kept ≤ 1000000) :
    Calls Yba.prog 6 #[.pointer (some ⟨sb, 0, none⟩), .int .i64 x, .int .i64 low, .int .i64 base] w fun e w' => e = .returned (.tuple #[]) ∧
      ∃ bm, Lows w' sb (some bm) (n + 1) (setD D kept x low base) (setK D kept x low base) ∧ (r = some bm ∨ bm = w.heap.size) ∧ Fr (fun i => i = sb ∨ r = some i) w w' := by
  cases r with
  | none =>
    obtain ⟨rfl, rfl⟩ := h.nil rfl
    have hsz1 : Maps.size ((.map [] : DataW Unit).put (.int .i64 x) (.lit (.int .i64 low))) = 1 := by simp [DataW.put, Maps.size, DataW.insert]
    have e1 : setD (.map []) 0 x low base = (.map [] : DataW Unit).put (.int .i64 x) (.lit (.int .i64 low)) := by unfold setD; rw [if_neg (by rw [hsz1]; omega)]
    have e2 : setK (.map []) 0 x low base = 0 := by unfold setK; rw [if_neg (by rw [hsz1]; omega)]
    rw [e1, e2]
    refine (set_nil sb x low base w h.c0 h.c1 h.f0 h.f1 hx hlow).mono fun e w' ⟨he, ho, d1, d0, f0, f1, hf⟩ => ?_
    refine ⟨he, w.heap.size, ⟨d0, d1, f0, f1, (fun hh => by cases hh), fun bm hb => ?_⟩, Or.inr rfl, hf.mono (fun i hi => Or.inl hi)⟩
    cases hb
    exact ho.mono (by omega)
  | some bm =>
    have ho := h.own bm rfl
    have hne : bm ≠ sb := map_ne_cell ho h.c0
    by_cases hs : 2 * kept + 64 < Maps.size (D.put (.int .i64 x) (.lit (.int .i64 low)))
    · have e1 : setD D kept x low base = sweep base (D.put (.int .i64 x) (.lit (.int .i64 low))) := by unfold setD; rw [if_pos hs]
      have e2 : setK D kept x low base = Maps.size (sweep base (D.put (.int .i64 x) (.lit (.int .i64 low)))) := by unfold setK; rw [if_pos hs]
      rw [e1, e2]
      refine (set_sweep sb bm n kept D x low base w h.c0 h.c1 h.f0 h.f1 ho hx hlow hn hk hs).mono fun e w' ⟨he, ho', d1, d0, f0, f1, hf⟩ => ?_
      refine ⟨he, bm, ⟨d0, d1, f0, f1, (fun hh => by cases hh), (fun b hb => by cases hb; exact ho')⟩, Or.inl rfl, hf.mono (fun i hi => hi.elim (fun e => Or.inr (by rw [e])) Or.inl)⟩
    · have e1 : setD D kept x low base = D.put (.int .i64 x) (.lit (.int .i64 low)) := by unfold setD; rw [if_neg hs]
      have e2 : setK D kept x low base = kept := by unfold setK; rw [if_neg hs]
      rw [e1, e2]
      refine (set_plain sb bm n kept D x low base w h.c0 h.c1 ho hx hlow hn hk hs).mono fun e w' ⟨he, ho', hf⟩ => ?_
      have hnS : ¬ (sb = bm) := fun e => hne e.symm
      refine ⟨he, bm, ⟨(hf.cell h.lt hnS).trans h.c0, (hf.cell h.lt hnS).trans h.c1, (hf.frozen h.lt hnS).trans h.f0, (hf.frozen h.lt hnS).trans h.f1, (fun hh => by cases hh), (fun b hb => by cases hb; exact ho')⟩, Or.inl rfl, hf.mono (fun i hi => Or.inr (by rw [hi]))⟩

/-! ### the bundle that the law's loops carry -/
/-- l at block B, the model's map at B + 1, the slice of keys, the op in block ob -/
structure G (B : Nat) (wr : World) (ob : Nat) (oc : Array Value) (r : Option Nat) (n1 : Nat) (D1 : DataW Unit) (k1 n2 : Nat) (D2 : DataW Unit) (kv : Value) (ks : List Int) : Prop where
  lows : Lows wr B r n1 D1 k1
  rge : ∀ bm, r = some bm → B + 2 ≤ bm
  mod : wr.ownsMap Yba.prog 2 (plainElem Yba.prog 2) (B + 1) n2 D2
  row : wr.ownsRow (B + 2) 2 1 kv ks.length (ks.map (Value.int .i64))
  op : wr.heap[ob]? = some (.cells oc 28)
  obB : B + 2 ≤ ob
  siz : B + 2 ≤ wr.heap.size
section
variable {B : Nat} {wr w' : World} {ob : Nat} {oc : Array Value} {r : Option Nat} {n1 : Nat} {D1 : DataW Unit} {k1 n2 : Nat} {D2 : DataW Unit} {kv : Value} {ks : List Int}
theorem row_ty {w : World} {base : Nat} {e : TypeId} {size : Nat} {v : Value} {m : Nat} {xs : List Value} (hr : w.ownsRow base e size v m xs) {g : Nat} (hv : v.ownBlock = some g) : ∃ cur, w.heap[g]? = some (.cells cur e) := by
  obtain ⟨_, h⟩ := hr
  rcases h with ⟨rfl, _⟩ | ⟨g', cap, cur, rfl, _, hg, _⟩
  · cases hv
  · cases hv
    exact ⟨cur, hg⟩
theorem G.bm_ne (h : G B wr ob oc r n1 D1 k1 n2 D2 kv ks) {bm : Nat} (hb : r = some bm) : bm ≠ B ∧ bm ≠ B + 1 ∧ bm ≠ ob ∧ ∀ v n xs, wr.ownsRow (B + 2) 2 1 v n xs → v.ownBlock ≠ some bm := by
  have ho := h.lows.own bm hb
  refine ⟨map_ne_cell ho h.lows.c0, (by have := h.rge bm hb; omega), fun e => ?_, fun v n xs hr hv => map_ne_row ho hr hv rfl⟩
  obtain ⟨es, clock, hm, _⟩ := ho
  rw [e, h.op] at hm
  cases hm
theorem G.ob_ne (h : G B wr ob oc r n1 D1 k1 n2 D2 kv ks) : ob ≠ B ∧ ob ≠ B + 1 ∧ ∀ v n xs, wr.ownsRow (B + 2) 2 1 v n xs → v.ownBlock ≠ some ob := by
  have := h.obB
  refine ⟨by omega, by omega, fun v n xs hr hv => ?_⟩
  obtain ⟨cur, hg⟩ := row_ty hr hv
  rw [h.op] at hg
  cases hg
theorem G.keeps {S : Nat → Prop} (h : G B wr ob oc r n1 D1 k1 n2 D2 kv ks) (hf : Fr S wr w') (s0 : ¬ S B) (s1 : ¬ S (B + 1)) (s2 : ∀ bm, r = some bm → ¬ S bm) (s3 : ∀ g, kv.ownBlock = some g → ¬ S g) (s4 : ¬ S ob) : G B w' ob oc r n1 D1 k1 n2 D2 kv ks :=
  ⟨h.lows.keeps hf s0 s2, h.rge, hf.ownsMap h.mod s1, hf.ownsRow h.row s3, by rw [hf.block ob (lt_of_block h.op) s4]; exact h.op, h.obB, Nat.le_trans h.siz hf.size⟩
theorem G.alloc (h : G B wr ob oc r n1 D1 k1 n2 D2 kv ks) (o : Obj) : G B (wr.alloc o) ob oc r n1 D1 k1 n2 D2 kv ks :=
  h.keeps (Fr.alloc wr o) id id (fun _ _ => id) (fun _ _ => id) id
theorem G.drewN (h : G B wr ob oc r n1 D1 k1 n2 D2 kv ks) (m : Nat) : G B (wr.drewN m) ob oc r n1 D1 k1 n2 D2 kv ks :=
  h.keeps ((Fr.refl (fun _ => False) wr).drewN m) id id (fun _ _ => id) (fun _ _ => id) id
theorem G.afterSet (h : G B wr ob oc r n1 D1 k1 n2 D2 kv ks) {bm n1' k1' : Nat} {D1' : DataW Unit} (L : Lows w' B (some bm) n1' D1' k1') (hb : r = some bm ∨ bm = wr.heap.size) (hf : Fr (fun i => i = B ∨ r = some i) wr w') :
    G B w' ob oc (some bm) n1' D1' k1' n2 D2 kv ks := by
  have hsz := h.siz
  have o1 := h.ob_ne
  refine ⟨L, fun b e => ?_, hf.ownsMap h.mod (fun e => e.elim (by omega) (fun e => (h.bm_ne e).2.1 rfl)), hf.ownsRow h.row (fun g hg e => ?_), ?_, h.obB, Nat.le_trans h.siz hf.size⟩
  · cases e
    exact hb.elim (h.rge bm) (by omega)
  · have := row_ge h.row hg
    exact e.elim (by omega) (fun e => (h.bm_ne e).2.2.2 _ _ _ h.row hg)
  · rw [hf.block ob (lt_of_block h.op) (fun e => e.elim o1.1 (fun e => (h.bm_ne e).2.2.1 rfl))]
    exact h.op
theorem G.afterMod (h : G B wr ob oc r n1 D1 k1 n2 D2 kv ks) {n2' : Nat} {D2' : DataW Unit} (ho : w'.ownsMap Yba.prog 2 (plainElem Yba.prog 2) (B + 1) n2' D2') (hg : wr.grownBy w' (some (B + 1))) :
    G B w' ob oc r n1 D1 k1 n2' D2' kv ks := by
  have hf : Fr (fun i => i = B + 1) wr w' := (Fr.of_grown hg).mono (by simp)
  have o1 := h.ob_ne
  refine ⟨h.lows.keeps hf (by omega) (fun bm hb => (h.bm_ne hb).2.1), h.rge, ho, hf.ownsRow h.row (fun g hv e => ?_), ?_, h.obB, Nat.le_trans h.siz hf.size⟩
  · have := row_ge h.row hv
    omega
  · rw [hf.block ob (lt_of_block h.op) o1.2.1]; exact h.op
/-- whatever was written into a row of the call's own that is not the keys' -/
theorem G.besideRow (h : G B wr ob oc r n1 D1 k1 n2 D2 kv ks) {nv : Value} {n : Nat} {xs : List Value} (hr : wr.ownsRow (B + 2) 2 1 nv n xs) (hne : ∀ g, kv.ownBlock = some g → nv.ownBlock ≠ some g) (hg : wr.grownBy w' nv.ownBlock) :
    G B w' ob oc r n1 D1 k1 n2 D2 kv ks := by
  have hf : Fr (fun i => some i = nv.ownBlock) wr w' := Fr.of_grown hg
  refine h.keeps hf (fun e => ?_) (fun e => ?_) (fun bm hb e => (h.bm_ne hb).2.2.2 _ _ _ hr e.symm) (fun g hv e => hne g hv e.symm) (fun e => h.ob_ne.2.2 _ _ _ hr e.symm)
  · have := row_ge hr e.symm; omega
  · have := row_ge hr e.symm; omega
theorem G.afterRow (h : G B wr ob oc r n1 D1 k1 n2 D2 kv ks) {kv' : Value} {ks' : List Int} (hr : w'.ownsRow (B + 2) 2 1 kv' ks'.length (ks'.map (Value.int .i64))) (hg : wr.grownBy w' kv.ownBlock) :
    G B w' ob oc r n1 D1 k1 n2 D2 kv' ks' := by
  have hf : Fr (fun i => some i = kv.ownBlock) wr w' := Fr.of_grown hg
  refine ⟨h.lows.keeps hf (fun e => ?_) (fun bm hb e => (h.bm_ne hb).2.2.2 _ _ _ h.row e.symm), h.rge, hf.ownsMap h.mod (fun e => ?_), hr, ?_, h.obB, Nat.le_trans h.siz hf.size⟩
  · have := row_ge h.row e.symm; omega
  · have := row_ge h.row e.symm; omega
  · rw [hf.block ob (lt_of_block h.op) (fun e => h.ob_ne.2.2 _ _ _ h.row e.symm)]; exact h.op
theorem G.cell (h : G B wr ob oc r n1 D1 k1 n2 D2 kv ks) (j : Nat) : wr.cell? ⟨ob, j, none⟩ = oc[j]? := by
  simp [World.cell?, h.op]
end
/-- what the outer loop carries -/
structure St (B : Nat) (wr : World) (r : Option Nat) (n : Nat) (D : DataW Unit) (kept : Nat) (kv : Value) (ks : List Int) : Prop where
  lows : Lows wr B r n D kept
  rge : ∀ bm, r = some bm → B + 2 ≤ bm
  mod : wr.ownsMap Yba.prog 2 (plainElem Yba.prog 2) (B + 1) n D
  row : wr.ownsRow (B + 2) 2 1 kv ks.length (ks.map (Value.int .i64))
  siz : B + 2 ≤ wr.heap.size
  inv : Inv ks D
  wf : ∀ x ∈ ks, (Lit.int .i64 x).wf = true
  kn : kept ≤ n
  ln : ks.length ≤ n
theorem St.op {B : Nat} {wr : World} {r : Option Nat} {n : Nat} {D : DataW Unit} {kept : Nat} {kv : Value} {ks : List Int} (h : St B wr r n D kept kv ks) (oc : Array Value) : G B (wr.alloc (.cells oc 28)) wr.heap.size oc r n D kept n D kv ks :=
  have f := Fr.alloc wr (.cells oc 28)
  ⟨h.lows.keeps f id (fun _ _ => id), h.rge, f.ownsMap h.mod id, f.ownsRow h.row (fun _ _ => id), (MapKept.heap_alloc wr _).1, h.siz, Nat.le_trans h.siz f.size⟩
theorem St.start (w : World) : St w.heap.size ((w.alloc (.cells #[.map none, .int .i64 0] 25)).alloc (.map #[] 0)) none 0 (.map []) 0 (.slice none 0 0) [] := by
  refine ⟨⟨?_, ?_, ?_, ?_, fun _ => ⟨rfl, rfl⟩, (fun bm hb => by cases hb)⟩, (fun bm hb => by cases hb), ?_, ?_, by simp, Inv.start, (fun x hx => by cases hx), Nat.le_refl _, Nat.le_refl _⟩
  · simp [go_sem]
  · simp [go_sem]
  · simp [go_sem]
  · simp [go_sem]
  · have h := World.ownsMap_made (H := Unit) (w.alloc (.cells #[.map none, .int .i64 0] 25)) Yba.prog 2 (plainElem Yba.prog 2)
    rw [World.size_alloc] at h
    exact h
  · exact World.ownsRow_nil _ _ _ _
/-- what the inner loop carries -/
structure St2 (w : World) (k : Nat) (ob : Nat) (oc : Array Value) (wv : World) (m n kept : Nat) (r : Option Nat) (D : DataW Unit) (kv : Value) (ks : List Int) : Prop where
  g : G w.heap.size wv ob oc r n D kept n D kv ks
  inv : Inv ks D
  wf : ∀ x ∈ ks, (Lit.int .i64 x).wf = true
  kn : kept ≤ n
  ln : ks.length ≤ n
  nm : n ≤ 80 * k + m
  bel : Below w.heap.size w wv
theorem St2.st {w : World} {k ob : Nat} {oc : Array Value} {wv : World} {m n kept : Nat} {r : Option Nat} {D : DataW Unit} {kv : Value} {ks : List Int} (h : St2 w k ob oc wv m n kept r D kv ks) : St w.heap.size wv r n D kept kv ks :=
  ⟨h.g.lows, h.g.rge, h.g.mod, h.g.row, h.g.siz, h.inv, h.wf, h.kn, h.ln⟩
theorem G.below_set {w wv w' : World} {ob : Nat} {oc : Array Value} {r : Option Nat} {n1 : Nat} {D1 : DataW Unit} {k1 n2 : Nat} {D2 : DataW Unit} {kv : Value} {ks : List Int} (h : G w.heap.size wv ob oc r n1 D1 k1 n2 D2 kv ks) (hb : Below w.heap.size w wv) (hf : Fr (fun i => i = w.heap.size ∨ r = some i) wv w') : Below w.heap.size w w' :=
  hb.trans (hf.below hb.size (fun i hi e => e.elim (by omega) (fun e => by have := h.rge i e; omega)))
theorem below_grown {w wv w' : World} {row : Option Nat} (hb : Below w.heap.size w wv) (hg : wv.grownBy w' row) (hr : ∀ j, row = some j → w.heap.size ≤ j) : Below w.heap.size w w' :=
  hb.trans ((Fr.of_grown hg).below hb.size (fun i hi e => by have := hr i e.symm; omega))
end Go.Proofs.Ybulkczfq
