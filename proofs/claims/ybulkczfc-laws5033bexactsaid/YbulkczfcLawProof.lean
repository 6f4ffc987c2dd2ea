/-
  THE ROW OF LawS5033BExact.
-/
import Derived.Test.YbulkczfcRows
import Derived.Test.YbulkczfcLaw
import Derived.WalkKit
import Derived.ProofKit
import Derived.OpenShut
namespace Go.Proofs.Ybulkczfc
open Go.ChangeShapes Go.WideShapes Go.ChangeAt Go.RowKit
section
variable {H : Type} {enc : TypeId × Value → H} {P : Program} {k e : TypeId} {n : Nat} {W : World} {base : Nat} {sp : Nat → Bool} {held : Bool}

/-- The number that a cell holds. -/
def numAt (cs : List Value) (i : Nat) : Int := match cs[i]? with
  | some (.int .u64 a) => if 0 ≤ a ∧ a < 18446744073709551616 then a else 0
  | _ => 0
theorem numAt_bd (cs : List Value) (i : Nat) : 0 ≤ numAt cs i ∧ numAt cs i < 18446744073709551616 := by
  unfold numAt
  split
  · split
    · assumption
    · decide
  · decide
/-- AN ARRAY OF uint64 BY VALUE, OPENED. -/
theorem open_words (hu : P.underlying k = some (.array n e)) (he : P.underlying e = some (.int .u64)) (h1 : P.cellsOf e = 1) (hk : P.cellsOf k = n)
    {r : Reach} {b0 : Nat} {v : Value} {d : DataW H} {p : List MemPlace} (hok : Value.okWide P W r b0 k v) (hd : DataW.Trod enc P W base sp held k v d p) :
    ∃ cs : List Value, v = .agg ⟨cs⟩ ∧ cs.length = n ∧ ∀ i, i < n → cs[i]? = some (.int .u64 (numAt cs i)) := by
  simp only [Value.okWide, hu] at hok
  obtain ⟨⟨cs⟩, rfl, h2, _⟩ := hok
  simp only [List.size_toArray] at h2
  rw [hk] at h2
  refine ⟨cs, rfl, h2, fun i hi => ?_⟩
  obtain ⟨fuel, hf⟩ := hd
  simp only [Value.cells] at hf
  obtain ⟨xs, m, _, _, _, hl, hx⟩ := DataW.trod_array hu hf
  have hy := hx i hi
  have hi' : i < xs.length := by omega
  rw [h1, Nat.mul_one, List.getElem?_eq_getElem hi'] at hy
  obtain ⟨a, ea, _, wa⟩ := DataW.trod_int he hy
  have hg : cs[i]? = some (.int .u64 a) := by
    have := congrArg (fun l => l[0]?) ea
    simpa using this
  have hb := bounds_u64 wa
  unfold numAt
  rw [hg]
  simp only
  rw [if_pos (by omega)]
end
theorem list6 {l : List Value} (h : l.length = 6) : ∃ a b c d e f, l = [a, b, c, d, e, f] := by
  match l, h with
  | [a, b, c, d, e, f], _ => exact ⟨a, b, c, d, e, f, rfl⟩
theorem list5 {l : List Value} (h : l.length = 5) : ∃ a b c d e, l = [a, b, c, d, e] := by
  match l, h with
  | [a, b, c, d, e], _ => exact ⟨a, b, c, d, e, rfl⟩
/-- six words, as the walk writes them -/
theorem words6 {cs : List Value} (hl : cs.length = 6) (h : ∀ i, i < 6 → cs[i]? = some (.int .u64 (numAt cs i))) :
    cs = [.int .u64 (numAt cs 0), .int .u64 (numAt cs 1), .int .u64 (numAt cs 2), .int .u64 (numAt cs 3), .int .u64 (numAt cs 4), .int .u64 (numAt cs 5)] := by
  obtain ⟨z, hz⟩ : ∃ z, numAt cs = z := ⟨_, rfl⟩
  rw [hz] at h ⊢
  obtain ⟨a, b, c, d, e, f, rfl⟩ := list6 hl
  have h0 := h 0 (by omega); have h1 := h 1 (by omega); have h2 := h 2 (by omega); have h3 := h 3 (by omega); have h4 := h 4 (by omega); have h5 := h 5 (by omega)
  simp at h0 h1 h2 h3 h4 h5
  rw [h0, h1, h2, h3, h4, h5]
theorem words5 {cs : List Value} (hl : cs.length = 5) (h : ∀ i, i < 5 → cs[i]? = some (.int .u64 (numAt cs i))) :
    cs = [.int .u64 (numAt cs 0), .int .u64 (numAt cs 1), .int .u64 (numAt cs 2), .int .u64 (numAt cs 3), .int .u64 (numAt cs 4)] := by
  obtain ⟨z, hz⟩ : ∃ z, numAt cs = z := ⟨_, rfl⟩
  rw [hz] at h ⊢
  obtain ⟨a, b, c, d, e, rfl⟩ := list5 hl
  have h0 := h 0 (by omega); have h1 := h 1 (by omega); have h2 := h 2 (by omega); have h3 := h 3 (by omega); have h4 := h 4 (by omega)
  simp at h0 h1 h2 h3 h4
  rw [h0, h1, h2, h3, h4]

theorem own : ownKnob Yba.prog.godebug = none := by kernel_rfl
theorem laidOut : laidOutB Yba.prog = true := by kernel_rfl
theorem cells22 : Yba.prog.cellsOf 22 = 1 := by kernel_rfl
theorem cells23 : Yba.prog.cellsOf 23 = 6 := by kernel_rfl
theorem cells24 : Yba.prog.cellsOf 24 = 5 := by kernel_rfl

set_option maxRecDepth 100000 in
theorem lifted (os : Os) (started : os.Started) (H : Type) (enc : TypeId × Value → H) :
    ReturnsInHanded {} Yba.checked os 3 .any (Rows.lawS5033BExactSpec.pre6 enc Yba.prog Yba.f3 Rows.lawS5033BExactRow.domain false) (Rows.lawS5033BExactSpec.post enc Yba.prog Yba.f3 false true false false) := by
  refine returnsInHanded_of_change (C := Yba.checked) own started (by kernel_rfl) Yba.func3
    (ChangeSpec.witness6 (enc := enc) (C := Yba.checked) false ⟨#[], #[.agg #[.int .u64 0, .int .u64 0, .int .u64 0, .int .u64 0, .int .u64 0, .int .u64 0], .agg #[.int .u64 0, .int .u64 0, .int .u64 0, .int .u64 0, .int .u64 0], .int .u64 0], []⟩ 8 (by kernel_rfl) (by kernel_rfl) (by kernel_rfl) (by kernel_rfl)) ?_
  intro W base args ds gs before hval0 hW hcnd _
  have hval : ∀ (j : Nat) t v, Yba.f3.params[j]? = some t → args[j]? = some v → Value.okWide Yba.prog W .any base t v := hval0
  have hW' := hW
  obtain ⟨p, q, hA0, hV, rfl, hfz, hnd⟩ := hW
  have hA : DataW.TrodAll enc Yba.prog W 0 (fun _ => true) true Yba.f3.params.toList args.toList ds p := hA0
  rw [Yba.params3] at hA hval
  obtain ⟨v0, v1, v2, d0, d1, d2, p0, p1, p2, rfl, rfl, rfl, h0, h1, h2⟩ := trodAll_three hA
  obtain ⟨rfl, rfl⟩ := trodVars_none hV
  have k0 := h0
  have k1 := h1
  have lt0 : ∀ x ∈ p0, x.block < W.heap.size := by obtain ⟨m, hm⟩ := k0; exact DataW.trod_lt m _ _ _ hm
  have lt1 : ∀ x ∈ p1, x.block < W.heap.size := by obtain ⟨m, hm⟩ := k1; exact DataW.trod_lt m _ _ _ hm
  obtain ⟨cs, rfl, l0, e0⟩ := open_words Yba.underlying23 Yba.underlying22 cells22 cells23 (hval 0 23 v0 rfl rfl) h0
  obtain ⟨xs, rfl, l1, e1⟩ := open_words Yba.underlying24 Yba.underlying22 cells22 cells24 (hval 1 24 v1 rfl rfl) h1
  obtain ⟨a2, rfl, rfl, rfl, w2⟩ := open_int Yba.underlying22 (hval 2 22 v2 rfl rfl) h2
  have b2 := bounds_u64 w2
  clear hA0 hval0
  have hwalk := law (numAt cs) (numAt xs) a2 W (numAt_bd xs) (numAt_bd cs) (by omega)
  have hcs : Value.agg #[.int .u64 (numAt cs 0), .int .u64 (numAt cs 1), .int .u64 (numAt cs 2), .int .u64 (numAt cs 3), .int .u64 (numAt cs 4), .int .u64 (numAt cs 5)] = .agg ⟨cs⟩ := by
    rw [← words6 l0 e0]
  have hxs : Value.agg #[.int .u64 (numAt xs 0), .int .u64 (numAt xs 1), .int .u64 (numAt xs 2), .int .u64 (numAt xs 3), .int .u64 (numAt xs 4)] = .agg ⟨xs⟩ := by
    rw [← words5 l1 e1]
  rw [hcs, hxs] at hwalk
  refine hwalk.mono fun e W' ⟨he, bel⟩ => ?_
  subst he
  exact ⟨_, rfl, _, _, _, [], _, [], hW', trodAll_mk1 (shut_bool Yba.underlying4 _), trodAll_cons_mk (Below.trod laidOut (by kernel_rfl) (of_decide_eq_true (by kernel_rfl)) k0 bel lt0) (trodAll_cons_mk (Below.trod laidOut (by kernel_rfl) (of_decide_eq_true (by kernel_rfl)) k1 bel lt1) (trodAll_cons_mk (shut_int Yba.underlying22 w2) trodAll_mk0)), rfl, bel.frame _, fun h => by cases h⟩

theorem over : Rows.lawS5033BExactRow.holds Yba.pinned (OpenSpec.ofChange Rows.lawS5033BExactSpec) :=
  OpenClaim.holds_of_wide 3 Yba.f3 rfl rfl rfl rfl rfl rfl rfl ⟨rfl, rfl, rfl, rfl, rfl⟩ rfl rfl rfl rfl rfl (by kernel_rfl) Yba.func3 (by kernel_rfl)
    (of_decide_eq_true (by kernel_rfl)) (by unfold Func.isWrapper; first | (rw [if_pos (by decide +kernel)]; kernel_rfl) | (rw [if_neg (by decide +kernel)]; exact ⟨rfl, rfl⟩))
    (fun os started H enc _ => lifted os started H enc)

/-- THE STATEMENT -/
theorem lawS5033BExact_proved : Rows.LawS5033BExactSaid := over
#print axioms lawS5033BExact_proved
end Go.Proofs.Ybulkczfc
