/-
  THE WALK OF LawS5034BModel.
-/
import Derived.Test.YbulkczfqInv
import Derived.Deep.LoopGhost
import Derived.Deep.AppendLies
import Derived.OpenShut
import Derived.LoopN
namespace Go.Proofs.Ybulkczfq
open Go.RowKit Go.Maps
theorem info2 : (Yba.prog.info? 2).map (fun i => (i.zero, i.size, i.bytes)) = some (some (.int .i64 0), 1, 8) := by kernel_rfl

/-- what the model's own sweep carries -/
structure St3 (w : World) (g gn ob : Nat) (oc : Array Value) (wq : World) (bm n : Nat) (D : DataW Unit) (base : Int) (gc : Nat) (ks : List Int) (N q : Nat) : Prop where
  g4 : G w.heap.size wq ob oc (some bm) n (sweep base D) (Maps.size (sweep base D)) n (delLow base (ks.take q) D) (.slice (some ⟨g, 0, none⟩) ks.length gc) ks
  nk : wq.ownsRow (w.heap.size + 2) 2 1 (.slice (some ⟨gn, 0, none⟩) (keep base (ks.take q)).length N) (keep base (ks.take q)).length ((keep base (ks.take q)).map (Value.int .i64))
  bel : Below w.heap.size w wq
  lt : g < gn
  ks_le : ks.length ≤ N
section
variable {w : World} {g gn ob : Nat} {oc : Array Value} {wq w' : World} {bm n : Nat} {D : DataW Unit} {base : Int} {gc : Nat} {ks : List Int} {N q : Nat} {y : Int}
theorem take_snoc (hy : ks[q]? = some y) : ks.take (q + 1) = ks.take q ++ [y] := by rw [List.take_add_one, hy]; rfl
theorem keep_take_low (hy : ks[q]? = some y) (hlt : y < base) : keep base (ks.take (q + 1)) = keep base (ks.take q) := by rw [take_snoc hy, keep_snoc, if_pos hlt]
theorem keep_take_high (hy : ks[q]? = some y) (hlt : ¬ y < base) : keep base (ks.take (q + 1)) = keep base (ks.take q) ++ [y] := by rw [take_snoc hy, keep_snoc, if_neg hlt]
theorem keep_take_lt (hN : ks.length ≤ N) (hy : ks[q]? = some y) : (keep base (ks.take q)).length + 1 ≤ N := by
  have h1 := keep_len base (ks.take q)
  have h2 := (List.getElem?_eq_some_iff.1 hy).1
  rw [List.length_take] at h1
  omega
theorem St3.key (h : St3 w g gn ob oc wq bm n D base gc ks N q) (hy : ks[q]? = some y) : wq.cell? ⟨g, q, none⟩ = some (.int .i64 y) := by
  have := h.g4.row.cells (g := g) rfl q (.int .i64 y) (by simp [hy])
  simpa [Addr.add_lit] using this
theorem St3.gne (h : St3 w g gn ob oc wq bm n D base gc ks N q) : ∀ g', (Value.slice (some ⟨g, 0, none⟩) ks.length gc).ownBlock = some g' → (Value.slice (some ⟨gn, 0, none⟩) (keep base (ks.take q)).length N).ownBlock ≠ some g' := by
  intro g' h1 h2
  have := h.lt
  cases h1
  cases h2
  omega
theorem St3.struck (h : St3 w g gn ob oc wq bm n D base gc ks N q) (hy : ks[q]? = some y) (hlt : y < base) (ho : w'.ownsMap Yba.prog 2 (plainElem Yba.prog 2) (w.heap.size + 1) n ((delLow base (ks.take q) D).del (.int .i64 y))) (hg : wq.mapTurned w' (w.heap.size + 1)) :
    St3 w g gn ob oc w' bm n D base gc ks N (q + 1) := by
  have hge : w.heap.size + 2 ≤ gn ∧ gn < wq.heap.size := row_ge h.nk rfl
  refine ⟨?_, ?_, below_grown h.bel hg.grown (fun j hj => by cases hj; omega), h.lt, h.ks_le⟩
  · have := h.g4.afterMod ho hg.grown
    rw [take_snoc hy, delLow_snoc, if_pos hlt]
    exact this
  · rw [keep_take_low hy hlt]
    exact h.nk.kept hg.grown (Or.inr (by intro e; simp [Value.ownBlock] at e; omega))
theorem St3.stays (h : St3 w g gn ob oc wq bm n D base gc ks N q) (hy : ks[q]? = some y) (hlt : ¬ y < base) {o : Obj}
    (ho : w'.ownsRow (w.heap.size + 2) 2 1 (.slice (some ⟨gn, 0, none⟩) ((keep base (ks.take q)).length + 1) N) ((keep base (ks.take q)).length + 1) ((keep base (ks.take q)).map (Value.int .i64) ++ [.int .i64 y])) (hg : (wq.alloc o).grownBy w' (some gn)) :
    St3 w g gn ob oc w' bm n D base gc ks N (q + 1) := by
  have hge : w.heap.size + 2 ≤ gn ∧ gn < wq.heap.size := row_ge h.nk rfl
  refine ⟨?_, ?_, below_grown (h.bel.alloc h.bel.size o) hg (fun j hj => by cases hj; omega), h.lt, h.ks_le⟩
  · have := (h.g4.alloc o).besideRow (h.nk.alloc o) h.gne hg
    rw [take_snoc hy, delLow_snoc, if_neg hlt]
    exact this
  · rw [keep_take_high hy hlt]
    simpa using ho
theorem St3.done (h : St3 w g gn ob oc wq bm n D base gc ks N q) (hq : ks.length ≤ q) (hi : Inv ks D) :
    G w.heap.size wq ob oc (some bm) n (sweep base D) (Maps.size (sweep base D)) n (sweep base D) (.slice (some ⟨gn, 0, none⟩) (keep base (ks.take q)).length N) (keep base (ks.take q)) := by
  have hm := h.g4.mod
  rw [List.take_of_length_le hq, hi.delLow] at hm
  exact ⟨h.g4.lows, h.g4.rge, hm, h.nk, h.g4.op, h.g4.obB, h.g4.siz⟩
end
theorem St.some {B : Nat} {wr : World} {r : Option Nat} {n : Nat} {D : DataW Unit} {kept : Nat} {kv : Value} {ks : List Int} (h : St B wr r n D kept kv ks) (hp : 0 < ks.length) : ∃ bm, r = some bm := by
  cases r with
  | some bm => exact ⟨bm, rfl⟩
  | none =>
    obtain ⟨rfl, _⟩ := h.lows.nil rfl
    obtain ⟨_, _, _, hh⟩ := h.inv
    have := hh ks[0] (List.getElem_mem hp)
    simp [Maps.has] at this
theorem Inv.has {ks : List Int} {D : DataW Unit} (h : Inv ks D) {y : Int} (hy : y ∈ ks) : Maps.has D (.int .i64 y) = true := by
  obtain ⟨_, _, _, hh⟩ := h
  exact hh y hy
theorem St.key {B : Nat} {wr : World} {r : Option Nat} {n : Nat} {D : DataW Unit} {kept g gc : Nat} {ks : List Int} {q : Nat} {y : Int} (h : St B wr r n D kept (.slice (.some ⟨g, 0, .none⟩) ks.length gc) ks) (hy : ks[q]? = .some y) : wr.cell? ⟨g, q, .none⟩ = .some (.int .i64 y) := by
  have := h.row.cells (g := g) rfl q (.int .i64 y) (by simp [hy])
  simpa [Addr.add_lit] using this
theorem Inv.pos {ks : List Int} {D : DataW Unit} {x : Int} (h : Inv ks D) (hh : Maps.has D (.int .i64 x) = true) : 0 < ks.length := List.length_pos_of_mem (h.mem hh)
theorem wf_snoc {ks : List Int} {x : Int} (h : ∀ y ∈ ks, (Lit.int .i64 y).wf = true) (hx : (Lit.int .i64 x).wf = true) : ∀ y ∈ ks ++ [x], (Lit.int .i64 y).wf = true := by
  intro y hy
  rcases List.mem_append.1 hy with hy | hy
  · exact h y hy
  · simp at hy; rw [hy]; exact hx
theorem row_snoc {w : World} {B g gc : Nat} {ks : List Int} {x : Int} (h : w.ownsRow (B + 2) 2 1 (.slice (some ⟨g, 0, none⟩) (ks.length + 1) gc) (ks.length + 1) (ks.map (Value.int .i64) ++ [.int .i64 x])) :
    w.ownsRow (B + 2) 2 1 (.slice (some ⟨g, 0, none⟩) (ks ++ [x]).length gc) (ks ++ [x]).length ((ks ++ [x]).map (Value.int .i64)) := by
  simpa using h
theorem G.below_row {w wv w' : World} {ob : Nat} {oc : Array Value} {r : Option Nat} {n1 : Nat} {D1 : DataW Unit} {k1 n2 : Nat} {D2 : DataW Unit} {kv : Value} {ks : List Int} {o : Obj} (h : G w.heap.size wv ob oc r n1 D1 k1 n2 D2 kv ks) (hb : Below w.heap.size w wv) (hg : (wv.alloc o).grownBy w' kv.ownBlock) : Below w.heap.size w w' :=
  below_grown (hb.alloc hb.size _) hg (fun j hj => by have := row_ge h.row hj; omega)
set_option maxHeartbeats 4000000 in
set_option maxRecDepth 100000 in
theorem walk (b off len cap : Nat) (E L Bs C : Nat → Int) (w : World) (hlen : len ≤ 256)
    (hc : ∀ k, k < len → w.cell? ⟨b, off + k * 4, none⟩ = some (.int .i64 (E k)) ∧ w.cell? ⟨b, off + k * 4 + 1, none⟩ = some (.int .i64 (L k)) ∧ w.cell? ⟨b, off + k * 4 + 1 + 1, none⟩ = some (.int .i64 (Bs k)) ∧ w.cell? ⟨b, off + k * 4 + 1 + 1 + 1, none⟩ = some (.int .u8 (C k)))
    (hb : b < w.heap.size) (hC : ∀ k, k < len → 0 ≤ C k ∧ C k < 256) :
    Calls Yba.prog 3 #[.slice (some ⟨b, off, none⟩) len cap] w fun e w' => e = .returned (.bool true) ∧ Below w.heap.size w w' := by
  have hmm := @run_makeMap Yba.prog
  have h256 : decide ((256 : Int) < len) = false := by simp; omega
  obtain ⟨i0, hi, hz0, hz1, hz2⟩ := info_parts info2
  go_enter Yba.func3, Yba.ntmps3
  go_wp2
  clear hmm h256
  go_loopw [5, 6, 28] (fun kv kp i wr => ∃ (k n kept : Nat) (r : Option Nat) (D : DataW Unit) (ks : List Int) (ka : Option Addr) (kc : Nat), k ≤ len ∧ n ≤ 80 * k ∧ kv = .slice ka ks.length kc ∧ i = .int .i64 k ∧ kp = .int .i64 kept ∧ St w.heap.size wr r n D kept (.slice ka ks.length kc) ks ∧ Below w.heap.size w wr) (fun _ _ i _ => len - (intOf i).toNat)
  case atStart => exact ⟨0, 0, 0, none, .map [], [], none, 0, by omega, by omega, rfl, rfl, rfl, St.start w, ((Below.refl _ _).alloc (Nat.le_refl _) _).alloc (by simp) _⟩
  case round =>
    obtain ⟨k, n, kept, r, D, ks, ka, kc, hk, hn, rfl, rfl, rfl, hst, hbel⟩ := hrel
    by_cases hlt : k < len
    · obtain ⟨q0, q1, q2, q3⟩ := hc k hlt
      have p0 : wr.cell? ⟨b, off + k * 4, none⟩ = _ := (hbel.cell (p := ⟨b, off + k * 4, none⟩) hb).trans q0
      have p1 : wr.cell? ⟨b, off + k * 4 + 1, none⟩ = _ := (hbel.cell (p := ⟨b, off + k * 4 + 1, none⟩) hb).trans q1
      have p2 : wr.cell? ⟨b, off + k * 4 + 1 + 1, none⟩ = _ := (hbel.cell (p := ⟨b, off + k * 4 + 1 + 1, none⟩) hb).trans q2
      have p3 : wr.cell? ⟨b, off + k * 4 + 1 + 1 + 1, none⟩ = _ := (hbel.cell (p := ⟨b, off + k * 4 + 1 + 1 + 1, none⟩) hb).trans q3
      clear q0 q1 q2 q3
      obtain ⟨C1, C2⟩ := hC k hlt
      have hs2 : Hid (St2 w k wr.heap.size #[.int .i64 (E k), .int .i64 (L k), .int .i64 (Bs k), .int .u8 (C k)] (wr.alloc (.cells #[.int .i64 (E k), .int .i64 (L k), .int .i64 (Bs k), .int .u8 (C k)] 28)) 0 n kept r D (.slice ka ks.length kc) ks) :=
        ⟨hst.op _, hst.inv, hst.wf, hst.kn, hst.ln, by omega, hbel.alloc hbel.size _⟩
      clear hst hbel
      go_wp2
      clear p0 p1 p2 p3
      go_loopw [5, 6, 10] (fun kv kp j wv => ∃ (m n kept : Nat) (r : Option Nat) (D : DataW Unit) (ks : List Int) (ka : Option Addr) (kc : Nat), (m : Int) ≤ C k % 80 + 1 ∧ kv = .slice ka ks.length kc ∧ j = .int .i64 m ∧ kp = .int .i64 kept ∧
        St2 w k wr.heap.size #[.int .i64 (E k), .int .i64 (L k), .int .i64 (Bs k), .int .u8 (C k)] wv m n kept r D (.slice ka ks.length kc) ks) (fun _ _ j _ => (C k % 80 + 1 - intOf j).toNat)
      case atStart => exact ⟨0, n, kept, r, D, ks, ka, kc, by omega, rfl, rfl, rfl, hs2⟩
      case round =>
        clear hs2 hn
        rename World => wv
        obtain ⟨m, n, kept, r, D, ks, ka, kc, hm, rfl, rfl, rfl, hs⟩ := hrel
        by_cases hmlt : (m : Int) < C k % 80 + 1
        · have o0 : wv.cell? ⟨wr.heap.size, 0, none⟩ = some (.int .i64 (E k)) := hs.g.cell 0
          have o1 : wv.cell? ⟨wr.heap.size, 1, none⟩ = some (.int .i64 (L k)) := hs.g.cell 1
          have o2 : wv.cell? ⟨wr.heap.size, 2, none⟩ = some (.int .i64 (Bs k)) := hs.g.cell 2
          have xw := wrap64_wf (E k + m)
          have lw := wf_bits .xor .i64 (L k) m
          obtain ⟨x, hx⟩ : ∃ x, wrap64 (E k + ↑m) = x := ⟨_, rfl⟩
          obtain ⟨lo, hlo⟩ : ∃ lo, bits .xor .i64 (L k) ↑m = lo := ⟨_, rfl⟩
          rw [hx] at xw
          rw [hlo] at lw
          have hkn := hs.kn
          have hln := hs.ln
          have hnm := hs.nm
          go_wp2_with fail
          simp only [hx]
          refine (set_any w.heap.size r n kept D x lo (Bs k) wv hs.g.lows xw lw (by omega) (by omega)).mono ?_
          rintro e w1 ⟨rfl, bm, L1, hb1, hf1⟩
          clear hx hlo o0 o1 o2
          have G1 := hs.g.afterSet L1 hb1 hf1
          have B1 := hs.g.below_set hs.bel hf1
          have HI : Hid (Inv ks D) := hs.inv
          have HWF : Hid (∀ y ∈ ks, (Lit.int .i64 y).wf = true) := hs.wf
          clear L1 hb1 hf1 hs
          by_cases hsw : 2 * kept + 64 < Maps.size (D.put (.int .i64 x) (.lit (.int .i64 lo)))
          · have e1 : setD D kept x lo (Bs k) = sweep (Bs k) (D.put (.int .i64 x) (.lit (.int .i64 lo))) := by unfold setD; rw [if_pos hsw]
            have e2 : setK D kept x lo (Bs k) = Maps.size (sweep (Bs k) (D.put (.int .i64 x) (.lit (.int .i64 lo)))) := by unfold setK; rw [if_pos hsw]
            rw [e1, e2] at G1
            clear e1 e2
            have hsw' : 2 * (kept : Int) + 64 < (Maps.size (D.put (.int .i64 x) (.lit (.int .i64 lo))) : Int) := by omega
            have z1 := G1.siz
            by_cases hh : Maps.has D (.int .i64 x) = true
            · have hpos : 0 < ks.length := Inv.pos HI hh
              obtain ⟨g, gc, hv, _, _⟩ := G1.row.form hpos
              obtain ⟨rfl, rfl⟩ : ka = some ⟨g, 0, none⟩ ∧ kc = gc := by simpa using hv
              clear hv
              go_wp2_with (first
                | (at_lookup; refine wpList_lookup_own_ok_int _ rfl _ _ 23 rfl 2 2 .i64 law2 Yba.underlying23 Yba.underlying2 (zero2 _) (w.heap.size + 1) n D rfl G1.mod _ _ rfl (keyOf_int_mk Yba.underlying2 xw) ?_; intro c hat hwc; clear hat hwc)
                | (at_mapUpdate; refine wpList_mapUpdate_own _ rfl _ _ _ 23 rfl 2 2 law2 Yba.underlying23 _ (w.heap.size + 1) n _ rfl G1.mod (by unfold maxLen; omega) _ _ _ rfl rfl (keyOf_int_mk Yba.underlying2 xw) _ [] (plainElem_int Yba.underlying2 lw) ?_; intro w3 hown3 hgrow3; have G3 := G1.afterMod hown3 hgrow3; have l3 := fun ty => G3.mod.len Yba.underlying23 ty; have z3 := G3.siz)
                | (at_make; refine wpList_make_own _ rfl _ _ 26 rfl (w.heap.size + 2) 2 i0 (.int .i64 0) 1 Yba.underlying26 hi hz0 hz1 .i64 .i64 _ (ks.length) rfl rfl rfl (by rw [hz2]; omega) (by unfold maxLen; omega) z3 ?_; intro w4 hown4 hgrow4)
                | go_in)
              have G4 := G3.keeps (Fr.of_grown hgrow4) (fun e => by cases e) (fun e => by cases e) (fun _ _ e => by cases e) (fun _ _ e => by cases e) (fun e => by cases e)
              have B4 := below_grown (below_grown B1 hgrow3 (fun j hj => by cases hj; omega)) hgrow4 (fun j hj => by cases hj)
              have glt : g < w3.heap.size := (row_ge G3.row rfl).2
              have HI3 : Hid (Inv (ks) (D.put (.int .i64 x) (.lit (.int .i64 lo)))) := Inv.put_old HI hh
              have HW3 : Hid (∀ y ∈ ks, (Lit.int .i64 y).wf = true) := HWF
              clear G1 G3 l3 hown3 hgrow3 hgrow4
              go_wp2
              go_loopw [15, 81] (fun nv i wq => ∃ q : Nat, q ≤ ks.length ∧ i = .int .i64 q ∧ nv = .slice (some ⟨w3.heap.size, 0, none⟩) (keep (Bs k) ((ks).take q)).length (ks.length) ∧ St3 w g w3.heap.size wr.heap.size #[.int .i64 (E k), .int .i64 (L k), .int .i64 (Bs k), .int .u8 (C k)] wq bm (n + 1) (D.put (.int .i64 x) (.lit (.int .i64 lo))) (Bs k) kc (ks) (ks.length) q) (fun _ i _ => ks.length - (intOf i).toNat)
              case atStart => exact ⟨0, by omega, rfl, by simp [keep], ⟨by simpa [delLow] using G4, by simpa [keep] using hown4, B4, glt, by simp⟩⟩
              case round =>
                clear G4 B4 hown4 glt
                rename World => wq
                obtain ⟨q, hq, rfl, rfl, h3⟩ := hrel
                by_cases hql : q < ks.length
                · obtain ⟨y, hy⟩ : ∃ y, (ks)[q]? = some y := ⟨_, List.getElem?_eq_getElem (by first | omega | (simp; omega))⟩
                  have hcy := h3.key hy
                  have yw : (Lit.int .i64 y).wf = true := HW3 y (List.mem_of_getElem? hy)
                  have o2 : wq.cell? ⟨wr.heap.size, 2, none⟩ = some (.int .i64 (Bs k)) := h3.g4.cell 2
                  have zq := h3.g4.siz
                  have HY : Hid ((ks)[q]? = some y) := hy
                  clear hy
                  have hkl := keep_take_lt (base := Bs k) h3.ks_le HY
                  by_cases hyb : y < Bs k
                  · go_wp2_with (first
                      | (at_delete; refine wpList_delete_own _ rfl _ _ 23 2 rfl 2 law2 Yba.underlying23 _ (w.heap.size + 1) (n + 1) _ rfl h3.g4.mod _ _ rfl (keyOf_int_mk Yba.underlying2 yw) ?_; intro w5 hown5 hturn5)
                      | go_in)
                    have h4 := h3.struck HY hyb hown5 hturn5
                    go_roundw
                    case rel => exact ⟨q + 1, by omega, by go_num, by rw [keep_take_low HY hyb], h4⟩
                    case measure => simp [intOf]; omega
                  · go_wp2_with (first
                      | (at_builtin; refine wpList_append_fits _ rfl _ _ 26 rfl (w.heap.size + 2) 2 i0 1 Yba.underlying26 hi hz1 w3.heap.size (keep (Bs k) ((ks).take q)).length (ks.length) ((keep (Bs k) ((ks).take q)).map (Value.int .i64)) rfl (h3.nk.alloc _) ⟨wq.heap.size, 0, none⟩ 1 1 [.int .i64 y] rfl rfl (cell_one_new _ _ _) (ints_oneCell .i64 [y]) (by omega) ?_; intro w5 hown5 hgrow5)
                      | go_in)
                    have h4 := h3.stays HY hyb hown5 hgrow5
                    go_roundw
                    case rel => exact ⟨q + 1, by omega, by go_num, by rw [keep_take_high HY hyb]; simp, h4⟩
                    case measure => simp [intOf]; omega
                · have G5 := h3.done (by first | omega | (simp; omega)) HI3
                  have l5 := fun ty => G5.mod.len Yba.underlying23 ty
                  have l6 := fun ty => (G5.lows.own bm rfl).len Yba.underlying23 ty
                  have c5 := G5.lows.c0
                  have c6 := G5.lows.c1
                  have z5 := G5.mod.size_le
                  have B5 := h3.bel
                  have I5 : Hid (Inv (keep (Bs k) ((ks).take q)) (sweep (Bs k) (D.put (.int .i64 x) (.lit (.int .i64 lo))))) := by
                    rw [List.take_of_length_le (by first | omega | (simp; omega))]; exact Inv.sweep HI3 _
                  have W5 : Hid (∀ y ∈ keep (Bs k) ((ks).take q), (Lit.int .i64 y).wf = true) := fun y hy => HW3 y (List.mem_of_mem_take (List.mem_filter.1 hy).1)
                  have L5 : Hid ((keep (Bs k) ((ks).take q)).length ≤ ks.length + 1) := Nat.le_trans (keep_len _ _) (by rw [List.length_take]; omega)
                  clear h3
                  go_wp2
                  go_roundw
                  case rel => exact ⟨m + 1, n + 1, _, some bm, _, keep (Bs k) ((ks).take q), _, _, by omega, rfl, by go_num, rfl, ⟨G5, I5, W5, z5, Nat.le_trans L5 (by omega), by omega, B5⟩⟩
                  case measure => simp [intOf]; omega
            · have hh' : Maps.has D (.int .i64 x) = false := by simpa using hh
              clear hh
              go_wp2_with (first
                | (at_lookup; refine wpList_lookup_own_ok_int _ rfl _ _ 23 rfl 2 2 .i64 law2 Yba.underlying23 Yba.underlying2 (zero2 _) (w.heap.size + 1) n D rfl G1.mod _ _ rfl (keyOf_int_mk Yba.underlying2 xw) ?_; intro c hat hwc; clear hat hwc)
                | (at_builtin; refine wpList_append_lies _ rfl _ _ 26 rfl (w.heap.size + 2) 2 i0 (.int .i64 0) 1 8 Yba.underlying26 hi hz0 hz1 hz2 rfl (by decide) (.slice ka ks.length kc) ks.length (ks.map (Value.int .i64)) rfl (G1.row.alloc _) ⟨w1.heap.size, 0, none⟩ 1 1 [.int .i64 x] rfl rfl (cell_one_new _ _ _) (ints_oneCell .i64 [x]) (by decide) (by unfold maxLen; omega) (by omega) (by simp; omega) _ rfl ?_; intro g gc w2 hown2 hgrow2 hat2 hlt2; have G2 := (G1.alloc _).afterRow (ks' := ks ++ [x]) (row_snoc hown2) hgrow2; have B2 := G1.below_row B1 hgrow2)
                | (at_mapUpdate; refine wpList_mapUpdate_own _ rfl _ _ _ 23 rfl 2 2 law2 Yba.underlying23 _ (w.heap.size + 1) n _ rfl G2.mod (by unfold maxLen; omega) _ _ _ rfl rfl (keyOf_int_mk Yba.underlying2 xw) _ [] (plainElem_int Yba.underlying2 lw) ?_; intro w3 hown3 hgrow3; have G3 := G2.afterMod hown3 hgrow3; have l3 := fun ty => G3.mod.len Yba.underlying23 ty; have z3 := G3.siz)
                | (at_make; refine wpList_make_own _ rfl _ _ 26 rfl (w.heap.size + 2) 2 i0 (.int .i64 0) 1 Yba.underlying26 hi hz0 hz1 .i64 .i64 _ (ks.length + 1) rfl rfl (by simp) (by rw [hz2]; omega) (by unfold maxLen; omega) z3 ?_; intro w4 hown4 hgrow4)
                | go_in)
              have G4 := G3.keeps (Fr.of_grown hgrow4) (fun e => by cases e) (fun e => by cases e) (fun _ _ e => by cases e) (fun _ _ e => by cases e) (fun e => by cases e)
              have B4 := below_grown (below_grown B2 hgrow3 (fun j hj => by cases hj; omega)) hgrow4 (fun j hj => by cases hj)
              have glt : g < w3.heap.size := (row_ge G3.row rfl).2
              have HI3 : Hid (Inv (ks ++ [x]) (D.put (.int .i64 x) (.lit (.int .i64 lo)))) := Inv.put_new HI
              have HW3 : Hid (∀ y ∈ ks ++ [x], (Lit.int .i64 y).wf = true) := wf_snoc HWF xw
              clear G1 G3 l3 hown3 hgrow3 hgrow4
              go_wp2
              go_loopw [15, 81] (fun nv i wq => ∃ q : Nat, q ≤ ks.length + 1 ∧ i = .int .i64 q ∧ nv = .slice (some ⟨w3.heap.size, 0, none⟩) (keep (Bs k) ((ks ++ [x]).take q)).length (ks.length + 1) ∧ St3 w g w3.heap.size wr.heap.size #[.int .i64 (E k), .int .i64 (L k), .int .i64 (Bs k), .int .u8 (C k)] wq bm (n + 1) (D.put (.int .i64 x) (.lit (.int .i64 lo))) (Bs k) gc (ks ++ [x]) (ks.length + 1) q) (fun _ i _ => ks.length + 1 - (intOf i).toNat)
              case atStart => exact ⟨0, by omega, rfl, by simp [keep], ⟨by simpa [delLow] using G4, by simpa [keep] using hown4, B4, glt, by simp⟩⟩
              case round =>
                clear G4 B4 hown4 glt
                rename World => wq
                obtain ⟨q, hq, rfl, rfl, h3⟩ := hrel
                by_cases hql : q < ks.length + 1
                · obtain ⟨y, hy⟩ : ∃ y, (ks ++ [x])[q]? = some y := ⟨_, List.getElem?_eq_getElem (by first | omega | (simp; omega))⟩
                  have hcy := h3.key hy
                  have yw : (Lit.int .i64 y).wf = true := HW3 y (List.mem_of_getElem? hy)
                  have o2 : wq.cell? ⟨wr.heap.size, 2, none⟩ = some (.int .i64 (Bs k)) := h3.g4.cell 2
                  have zq := h3.g4.siz
                  have HY : Hid ((ks ++ [x])[q]? = some y) := hy
                  clear hy
                  have hkl := keep_take_lt (base := Bs k) h3.ks_le HY
                  by_cases hyb : y < Bs k
                  · go_wp2_with (first
                      | (at_delete; refine wpList_delete_own _ rfl _ _ 23 2 rfl 2 law2 Yba.underlying23 _ (w.heap.size + 1) (n + 1) _ rfl h3.g4.mod _ _ rfl (keyOf_int_mk Yba.underlying2 yw) ?_; intro w5 hown5 hturn5)
                      | go_in)
                    have h4 := h3.struck HY hyb hown5 hturn5
                    go_roundw
                    case rel => exact ⟨q + 1, by omega, by go_num, by rw [keep_take_low HY hyb], h4⟩
                    case measure => simp [intOf]; omega
                  · go_wp2_with (first
                      | (at_builtin; refine wpList_append_fits _ rfl _ _ 26 rfl (w.heap.size + 2) 2 i0 1 Yba.underlying26 hi hz1 w3.heap.size (keep (Bs k) ((ks ++ [x]).take q)).length (ks.length + 1) ((keep (Bs k) ((ks ++ [x]).take q)).map (Value.int .i64)) rfl (h3.nk.alloc _) ⟨wq.heap.size, 0, none⟩ 1 1 [.int .i64 y] rfl rfl (cell_one_new _ _ _) (ints_oneCell .i64 [y]) (by omega) ?_; intro w5 hown5 hgrow5)
                      | go_in)
                    have h4 := h3.stays HY hyb hown5 hgrow5
                    go_roundw
                    case rel => exact ⟨q + 1, by omega, by go_num, by rw [keep_take_high HY hyb]; simp, h4⟩
                    case measure => simp [intOf]; omega
                · have G5 := h3.done (by first | omega | (simp; omega)) HI3
                  have l5 := fun ty => G5.mod.len Yba.underlying23 ty
                  have l6 := fun ty => (G5.lows.own bm rfl).len Yba.underlying23 ty
                  have c5 := G5.lows.c0
                  have c6 := G5.lows.c1
                  have z5 := G5.mod.size_le
                  have B5 := h3.bel
                  have I5 : Hid (Inv (keep (Bs k) ((ks ++ [x]).take q)) (sweep (Bs k) (D.put (.int .i64 x) (.lit (.int .i64 lo))))) := by
                    rw [List.take_of_length_le (by first | omega | (simp; omega))]; exact Inv.sweep HI3 _
                  have W5 : Hid (∀ y ∈ keep (Bs k) ((ks ++ [x]).take q), (Lit.int .i64 y).wf = true) := fun y hy => HW3 y (List.mem_of_mem_take (List.mem_filter.1 hy).1)
                  have L5 : Hid ((keep (Bs k) ((ks ++ [x]).take q)).length ≤ ks.length + 1) := Nat.le_trans (keep_len _ _) (by rw [List.length_take]; omega)
                  clear h3
                  go_wp2
                  go_roundw
                  case rel => exact ⟨m + 1, n + 1, _, some bm, _, keep (Bs k) ((ks ++ [x]).take q), _, _, by omega, rfl, by go_num, rfl, ⟨G5, I5, W5, z5, Nat.le_trans L5 (by omega), by omega, B5⟩⟩
                  case measure => simp [intOf]; omega
          · have e1 : setD D kept x lo (Bs k) = D.put (.int .i64 x) (.lit (.int .i64 lo)) := by unfold setD; rw [if_neg hsw]
            have e2 : setK D kept x lo (Bs k) = kept := by unfold setK; rw [if_neg hsw]
            rw [e1, e2] at G1
            clear e1 e2
            by_cases hh : Maps.has D (.int .i64 x) = true
            · have hsw' : ¬ (2 * (kept : Int) + 64 < (Maps.size (D.put (.int .i64 x) (.lit (.int .i64 lo))) : Int)) := by omega
              go_wp2_with (first
                | (at_lookup; go_loud (refine wpList_lookup_own_ok_int _ rfl _ _ 23 rfl 2 2 .i64 law2 Yba.underlying23 Yba.underlying2 (zero2 _) (w.heap.size + 1) n D rfl G1.mod _ _ rfl (keyOf_int_mk Yba.underlying2 xw) ?_); intro c hat hwc; clear hat hwc)
                | (at_mapUpdate; refine wpList_mapUpdate_own _ rfl _ _ _ 23 rfl 2 2 law2 Yba.underlying23 _ (w.heap.size + 1) n _ rfl G1.mod (by unfold maxLen; omega) _ _ _ rfl rfl (keyOf_int_mk Yba.underlying2 xw) _ [] (plainElem_int Yba.underlying2 lw) ?_; intro w3 hown3 hgrow3; have G3 := G1.afterMod hown3 hgrow3; have l3 := fun ty => G3.mod.len Yba.underlying23 ty; have l4 := fun ty => (G3.lows.own bm rfl).len Yba.underlying23 ty; have c4 := G3.lows.c0; have c5 := G3.lows.c1; have z3 := G3.mod.size_le)
                | go_in)
              go_roundw
              case rel => exact ⟨m + 1, n + 1, kept, some bm, _, ks, ka, kc, by omega, rfl, by go_num, rfl, ⟨G3, Inv.put_old HI hh, HWF, by omega, by omega, by omega, below_grown B1 hgrow3 (fun j hj => by cases hj; omega)⟩⟩
              case measure => simp [intOf]; omega
            · have hh' : Maps.has D (.int .i64 x) = false := by simpa using hh
              have hsw' : ¬ (2 * (kept : Int) + 64 < (Maps.size (D.put (.int .i64 x) (.lit (.int .i64 lo))) : Int)) := by omega
              clear hh
              have z1 := G1.siz
              go_wp2_with (first
                | (at_lookup; refine wpList_lookup_own_ok_int _ rfl _ _ 23 rfl 2 2 .i64 law2 Yba.underlying23 Yba.underlying2 (zero2 _) (w.heap.size + 1) n D rfl G1.mod _ _ rfl (keyOf_int_mk Yba.underlying2 xw) ?_; intro c hat hwc; clear hat hwc)
                | (at_builtin; refine wpList_append_lies _ rfl _ _ 26 rfl (w.heap.size + 2) 2 i0 (.int .i64 0) 1 8 Yba.underlying26 hi hz0 hz1 hz2 rfl (by decide) (.slice ka ks.length kc) ks.length (ks.map (Value.int .i64)) rfl (G1.row.alloc _) ⟨w1.heap.size, 0, none⟩ 1 1 [.int .i64 x] rfl rfl (cell_one_new _ _ _) (ints_oneCell .i64 [x]) (by decide) (by unfold maxLen; omega) (by omega) (by simp; omega) _ rfl ?_; intro g gc w2 hown2 hgrow2 hat2 hlt2; have G2 := (G1.alloc _).afterRow (ks' := ks ++ [x]) (row_snoc hown2) hgrow2; have B2 := G1.below_row B1 hgrow2)
                | (at_mapUpdate; refine wpList_mapUpdate_own _ rfl _ _ _ 23 rfl 2 2 law2 Yba.underlying23 _ (w.heap.size + 1) n _ rfl G2.mod (by unfold maxLen; omega) _ _ _ rfl rfl (keyOf_int_mk Yba.underlying2 xw) _ [] (plainElem_int Yba.underlying2 lw) ?_; intro w3 hown3 hgrow3; have G3 := G2.afterMod hown3 hgrow3; have l3 := fun ty => G3.mod.len Yba.underlying23 ty; have l4 := fun ty => (G3.lows.own bm rfl).len Yba.underlying23 ty; have c4 := G3.lows.c0; have c5 := G3.lows.c1; have z3 := G3.mod.size_le)
                | go_in)
              go_roundw
              case rel => exact ⟨m + 1, n + 1, kept, some bm, _, ks ++ [x], _, _, by omega, by simp, by go_num, rfl, ⟨G3, Inv.put_new HI, wf_snoc HWF xw, by omega, by simp; omega, by omega, below_grown B2 hgrow3 (fun j hj => by cases hj; omega)⟩⟩
              case measure => simp [intOf]; omega
        · go_wp2
          go_roundw
          case rel => exact ⟨k + 1, n, kept, r, D, ks, ka, kc, by omega, by have := hs.nm; omega, rfl, by go_num, rfl, hs.st, hs.bel⟩
          case measure => simp [intOf]; omega
    · clear hc
      rename World => w1
      by_cases hks : ks.length = 0
      · have hln : ((ks.length : Nat) : Int) = 0 := by omega
        go_wp2
        refine wp_loop_rounds 1 ?_
        rw [rounds_succ]
        go_wp2
        go_ret
        exact ⟨rfl, hbel⟩
      · obtain ⟨g, gc, hv, _, _⟩ := hst.row.form (by omega)
        obtain ⟨rfl, rfl⟩ : ka = some ⟨g, 0, none⟩ ∧ kc = gc := by simpa using hv
        clear hv
        obtain ⟨bm, rfl⟩ := hst.some (by omega)
        have hln := hst.ln
        go_wp2
        go_loopw [114] (fun i wq => ∃ q : Nat, q ≤ ks.length ∧ i = .int .i64 q ∧ wq = w1) (fun i _ => ks.length - (intOf i).toNat)
        case atStart => exact ⟨0, by omega, rfl, rfl⟩
        case round =>
          obtain ⟨q, hq, rfl, rfl⟩ := hrel
          by_cases hql : q < ks.length
          · obtain ⟨y, hy⟩ : ∃ y, ks[q]? = some y := ⟨_, List.getElem?_eq_getElem hql⟩
            have hcy := hst.key hy
            have yw : (Lit.int .i64 y).wf = true := hst.wf y (List.mem_of_getElem? hy)
            have hhy : Hid (Maps.has D (.int .i64 y) = true) := hst.inv.has (List.mem_of_getElem? hy)
            obtain ⟨c, hrun, hat, _⟩ := hst.mod.lookup_int law2 Yba.underlying23 Yba.underlying2 (zero2 _) (keyOf_int_mk Yba.underlying2 yw)
            have HAT : Hid (D.atKey (.int .i64 y) (.lit (.int .i64 0)) = .lit (.int .i64 c)) := hat
            clear hat hy
            go_wp2_with fail
            refine (get_some w.heap.size bm n D y c _ hst.lows.c0 (hst.lows.own bm rfl) yw hhy HAT).mono ?_
            rintro e w' ⟨rfl, rfl⟩
            go_wp2
            go_roundw
            case rel => exact ⟨q + 1, by omega, by go_num, by first | rfl | trivial⟩
            case measure => simp [intOf]; omega
          · go_wp2
            go_ret
            exact ⟨rfl, hbel⟩
end Go.Proofs.Ybulkczfq
