/-
  THE ROW OF LawS5034CTable.
-/
import Derived.Test.YbulkczfqRows
import Derived.Test.YbulkczfqTable
import Derived.WalkKit
import Derived.ProofKit
import Derived.OpenShut
namespace Go.Proofs.Ybulkczfq.lawS5034CTable
open Go.ChangeShapes Go.WideShapes Go.ChangeAt Go.RowKit
section
variable {H : Type} {enc : TypeId × Value → H} {P : Program} {k e : TypeId} {n : Nat} {W : World} {base : Nat} {sp : Nat → Bool} {held : Bool}

/-- The number that a cell holds. -/
def numAt (cs : List Value) (i : Nat) : Int := match cs[i]? with
  | some (.int .u64 a) => if 0 ≤ a ∧ a < 18446744073709551616 then a else 0
  | _ => 0
theorem numAt_bd (cs : List Value) (i : Nat) : 0 ≤ numAt cs i ∧ numAt cs i < 18446744073709551616 := by
  unfold numAt
  split
  · split
    · assumption
    · decide
  · decide
/-- AN ARRAY OF uint64 BY VALUE, OPENED. -/
theorem open_words (hu : P.underlying k = some (.array n e)) (he : P.underlying e = some (.int .u64)) (h1 : P.cellsOf e = 1) (hk : P.cellsOf k = n)
    {r : Reach} {b0 : Nat} {v : Value} {d : DataW H} {p : List MemPlace} (hok : Value.okWide P W r b0 k v) (hd : DataW.Trod enc P W base sp held k v d p) :
    ∃ cs : List Value, v = .agg ⟨cs⟩ ∧ cs.length = n ∧ ∀ i, i < n → cs[i]? = some (.int .u64 (numAt cs i)) := by
  simp only [Value.okWide, hu] at hok
  obtain ⟨⟨cs⟩, rfl, h2, _⟩ := hok
  simp only [List.size_toArray] at h2
  rw [hk] at h2
  refine ⟨cs, rfl, h2, fun i hi => ?_⟩
  obtain ⟨fuel, hf⟩ := hd
  simp only [Value.cells] at hf
  obtain ⟨xs, m, _, _, _, hl, hx⟩ := DataW.trod_array hu hf
  have hy := hx i hi
  have hi' : i < xs.length := by omega
  rw [h1, Nat.mul_one, List.getElem?_eq_getElem hi'] at hy
  obtain ⟨a, ea, _, wa⟩ := DataW.trod_int he hy
  have hg : cs[i]? = some (.int .u64 a) := by
    have := congrArg (fun l => l[0]?) ea
    simpa using this
  have hb := bounds_u64 wa
  unfold numAt
  rw [hg]
  simp only
  rw [if_pos (by omega)]
end
theorem list2 {l : List Value} (h : l.length = 2) : ∃ a b, l = [a, b] := by
  match l, h with
  | [a, b], _ => exact ⟨a, b, rfl⟩
/-- two words, as the walk writes them -/
theorem words2 {cs : List Value} (hl : cs.length = 2) (h : ∀ i, i < 2 → cs[i]? = some (.int .u64 (numAt cs i))) :
    cs = [.int .u64 (numAt cs 0), .int .u64 (numAt cs 1)] := by
  obtain ⟨z, hz⟩ : ∃ z, numAt cs = z := ⟨_, rfl⟩
  rw [hz] at h ⊢
  obtain ⟨a, b, rfl⟩ := list2 hl
  have h0 := h 0 (by omega); have h1 := h 1 (by omega)
  simp at h0 h1
  rw [h0, h1]

theorem own : ownKnob Yba.prog.godebug = none := by kernel_rfl
theorem laidOut : laidOutB Yba.prog = true := by kernel_rfl
theorem cells34 : Yba.prog.cellsOf 34 = 1 := by kernel_rfl
theorem cells35 : Yba.prog.cellsOf 35 = 2 := by kernel_rfl

set_option maxRecDepth 100000 in
theorem lifted (os : Os) (started : os.Started) (H : Type) (enc : TypeId × Value → H) :
    ReturnsInHanded {} Yba.checked os 5 .any (Rows.lawS5034CTableSpec.pre6 enc Yba.prog Yba.f5 Rows.lawS5034CTableRow.domain false) (Rows.lawS5034CTableSpec.post enc Yba.prog Yba.f5 false true false false) := by
  refine returnsInHanded_of_change (C := Yba.checked) own started (by kernel_rfl) Yba.func5
    (ChangeSpec.witness6 (enc := enc) (C := Yba.checked) false ⟨#[], #[.agg #[.int .u64 0, .int .u64 0], .agg #[.int .u64 0, .int .u64 0], .bool false], []⟩ 8 (by kernel_rfl) (by kernel_rfl) (by kernel_rfl) (by kernel_rfl)) ?_
  intro W base args ds gs before hval0 hW hcnd _
  have hval : ∀ (j : Nat) t v, Yba.f5.params[j]? = some t → args[j]? = some v → Value.okWide Yba.prog W .any base t v := hval0
  have hW' := hW
  obtain ⟨p, q, hA0, hV, rfl, hfz, hnd⟩ := hW
  have hA : DataW.TrodAll enc Yba.prog W 0 (fun _ => true) true Yba.f5.params.toList args.toList ds p := hA0
  rw [Yba.params5] at hA hval
  obtain ⟨v0, v1, v2, d0, d1, d2, p0, p1, p2, rfl, rfl, rfl, h0, h1, h2⟩ := trodAll_three hA
  obtain ⟨rfl, rfl⟩ := trodVars_none hV
  have k0 := h0
  have k1 := h1
  have lt0 : ∀ x ∈ p0, x.block < W.heap.size := by obtain ⟨m, hm⟩ := k0; exact DataW.trod_lt m _ _ _ hm
  have lt1 : ∀ x ∈ p1, x.block < W.heap.size := by obtain ⟨m, hm⟩ := k1; exact DataW.trod_lt m _ _ _ hm
  obtain ⟨cs, rfl, l0, e0⟩ := open_words Yba.underlying35 Yba.underlying34 cells34 cells35 (hval 0 35 v0 rfl rfl) h0
  obtain ⟨xs, rfl, l1, e1⟩ := open_words Yba.underlying35 Yba.underlying34 cells34 cells35 (hval 1 35 v1 rfl rfl) h1
  obtain ⟨b2, rfl, rfl, rfl⟩ := open_bool Yba.underlying4 (hval 2 4 v2 rfl rfl) h2
  clear hA0 hval0
  have hwalk : Calls Yba.prog 5 #[.agg #[.int .u64 (numAt cs 0), .int .u64 (numAt cs 1)], .agg #[.int .u64 (numAt xs 0), .int .u64 (numAt xs 1)], .bool b2] W fun e w' => e = .returned (.bool true) ∧ Below W.heap.size W w' := by
    cases b2
    · exact table_some _ _ _ _ W
    · exact table_nil _ _ _ _ W
  have hcs : Value.agg #[.int .u64 (numAt cs 0), .int .u64 (numAt cs 1)] = .agg ⟨cs⟩ := by rw [← words2 l0 e0]
  have hxs : Value.agg #[.int .u64 (numAt xs 0), .int .u64 (numAt xs 1)] = .agg ⟨xs⟩ := by rw [← words2 l1 e1]
  rw [hcs, hxs] at hwalk
  refine hwalk.mono fun e W' ⟨he, bel⟩ => ?_
  subst he
  exact ⟨_, rfl, _, _, _, [], _, [], hW', trodAll_mk1 (shut_bool Yba.underlying4 _), trodAll_cons_mk (Below.trod laidOut (by kernel_rfl) (of_decide_eq_true (by kernel_rfl)) k0 bel lt0) (trodAll_cons_mk (Below.trod laidOut (by kernel_rfl) (of_decide_eq_true (by kernel_rfl)) k1 bel lt1) (trodAll_cons_mk (shut_bool Yba.underlying4 _) trodAll_mk0)), rfl, bel.frame _, fun h => by cases h⟩

theorem over : Rows.lawS5034CTableRow.holds Yba.pinned (OpenSpec.ofChange Rows.lawS5034CTableSpec) :=
  OpenClaim.holds_of_wide 5 Yba.f5 rfl rfl rfl rfl rfl rfl rfl ⟨rfl, rfl, rfl, rfl, rfl⟩ rfl rfl rfl rfl rfl (by kernel_rfl) Yba.func5 (by kernel_rfl)
    (of_decide_eq_true (by kernel_rfl)) (by unfold Func.isWrapper; first | (rw [if_pos (by decide +kernel)]; kernel_rfl) | (rw [if_neg (by decide +kernel)]; exact ⟨rfl, rfl⟩))
    (fun os started H enc _ => lifted os started H enc)

/-- THE STATEMENT -/
theorem proved : Rows.LawS5034CTableSaid := over
#print axioms proved
end Go.Proofs.Ybulkczfq.lawS5034CTable
