/-
  THE ROW OF LawS5034BModel.
-/
import Derived.Test.YbulkczfqRows
import Derived.Test.YbulkczfqModel
import Derived.WalkKit
import Derived.ProofKit
import Derived.OpenShut
import Derived.Deep.Slices
namespace Go.Proofs.Ybulkczfq
open Go.ChangeShapes Go.WideShapes Go.ChangeAt Go.RowKit Go.Deep
theorem cells28 : Yba.prog.cellsOf 28 = 4 := by kernel_rfl
theorem cells2 : Yba.prog.cellsOf 2 = 1 := by kernel_rfl
theorem cells5 : Yba.prog.cellsOf 5 = 1 := by kernel_rfl

/-- A SLICE OF OPS, OPENED: nil; or each op's four cells. -/
theorem open_ops {H : Type} {enc : TypeId × Value → H} {w : World} {base : Nat} {spare : Nat → Bool} {held : Bool} {a : Option Addr} {len cap : Nat} {d : DataW H} {p : List MemPlace}
    (h : DataW.Trod enc Yba.prog w base spare held 22 (.slice a len cap) d p) :
    len = 0 ∨ ∃ (b off : Nat) (E L Bs C : Nat → Int), a = some ⟨b, off, none⟩ ∧ b < w.heap.size ∧
      (∀ k, k < len → w.cell? ⟨b, off + k * 4, none⟩ = some (.int .i64 (E k)) ∧ w.cell? ⟨b, off + k * 4 + 1, none⟩ = some (.int .i64 (L k)) ∧ w.cell? ⟨b, off + k * 4 + 1 + 1, none⟩ = some (.int .i64 (Bs k)) ∧ w.cell? ⟨b, off + k * 4 + 1 + 1 + 1, none⟩ = some (.int .u8 (C k))) ∧
      ∀ k, k < len → 0 ≤ C k ∧ C k < 256 := by
  obtain ⟨fuel, hf⟩ := h
  simp only [Value.cells] at hf
  rcases open_slice Yba.underlying22 hf with ⟨hcs, _⟩ | ⟨x, len', cap', m, n, D, Pl, hcs, _, hl, _, hm, _, hx⟩
  · simp at hcs
    exact Or.inl hcs.2.1
  · simp at hcs
    obtain ⟨rfl, rfl, rfl⟩ := hcs
    by_cases h0 : len = 0
    · exact Or.inl h0
    right
    have hlm : len ≤ m := by rw [hm]; split <;> omega
    have each : ∀ i, i < len → ∃ q : Int × Int × Int × Int, w.cell? (x.add (i * 4)) = some (.int .i64 q.1) ∧ w.cell? (x.add (i * 4 + 1)) = some (.int .i64 q.2.1) ∧ w.cell? (x.add (i * 4 + 2)) = some (.int .i64 q.2.2.1) ∧ w.cell? (x.add (i * 4 + 3)) = some (.int .u8 q.2.2.2) ∧ 0 ≤ q.2.2.2 ∧ q.2.2.2 < 256 := by
      intro i hi
      obtain ⟨cs', h1, h2⟩ := hx i (by omega)
      rw [cells28] at h1
      obtain ⟨_, hlen, hcell⟩ := World.cells?_some h1
      obtain ⟨xs, k, hk, hxy, _, hxl, hfd⟩ := DataW.trod_struct Yba.underlying28 h2
      match xs, hxl, cs', hlen with
      | [y0, y1, y2, y3], _, [v0, v1, v2, v3], _ =>
        have g0 := hfd 0 _ rfl
        have g1 := hfd 1 _ rfl
        have g2 := hfd 2 _ rfl
        have g3 := hfd 3 _ rfl
        simp [cells2, cells5] at g0 g1 g2 g3
        obtain ⟨e0, r0, _, _⟩ := DataW.trod_int Yba.underlying2 g0
        obtain ⟨e1, r1, _, _⟩ := DataW.trod_int Yba.underlying2 g1
        obtain ⟨e2, r2, _, _⟩ := DataW.trod_int Yba.underlying2 g2
        obtain ⟨e3, r3, _, w3⟩ := DataW.trod_int Yba.underlying5 g3
        simp at r0 r1 r2 r3
        subst r0 r1 r2 r3
        have c0 := hcell 0 (by omega)
        have c1 := hcell 1 (by omega)
        have c2 := hcell 2 (by omega)
        have c3 := hcell 3 (by omega)
        rw [add_add] at c0 c1 c2 c3
        have b3 := bounds_u8 w3
        exact ⟨(e0, e1, e2, e3), by simpa using c0, by simpa using c1, by simpa using c2, by simpa using c3, by simpa using b3.1, by simp; omega⟩
    obtain ⟨f, hfn⟩ := choose_lt each
    obtain ⟨b, off, spot⟩ := x
    have hspot : spot = none := by
      have := World.cell?_spot (hfn 0 (by omega)).1
      simpa [Addr.add] using this
    subst hspot
    refine ⟨b, off, fun k => (f k).1, fun k => (f k).2.1, fun k => (f k).2.2.1, fun k => (f k).2.2.2, rfl, ?_, fun k hk => ?_, fun k hk => ⟨(hfn k hk).2.2.2.2.1, (hfn k hk).2.2.2.2.2⟩⟩
    · have := (hfn 0 (by omega)).1
      simp only [add_plain] at this
      unfold World.cell? at this
      cases hb : w.heap[b]? with
      | none => simp [hb] at this
      | some o => exact (Array.getElem?_eq_some_iff.1 hb).1
    · obtain ⟨c0, c1, c2, c3, _⟩ := hfn k hk
      simp only [add_plain] at c0 c1 c2 c3
      exact ⟨c0, c1, c2, c3⟩

namespace lawS5034BModel
/-- no ops -/
theorem walk0 (a : Option Addr) (cap : Nat) (w : World) :
    Calls Yba.prog 3 #[.slice a 0 cap] w fun e w' => e = .returned (.bool true) ∧ Below w.heap.size w w' := by
  have hmm := @run_makeMap Yba.prog
  go_enter Yba.func3, Yba.ntmps3
  go_wp2
  refine wp_loop_rounds 1 ?_
  rw [rounds_succ]
  go_wp2
  refine wp_loop_rounds 1 ?_
  rw [rounds_succ]
  go_wp2
  go_ret
  exact ⟨rfl, ((Below.refl _ _).alloc (Nat.le_refl _) _).alloc (by simp) _⟩
/-- too many ops -/
theorem walkMany (a : Option Addr) (len cap : Nat) (w : World) (h : 256 < len) :
    Calls Yba.prog 3 #[.slice a len cap] w fun e w' => e = .returned (.bool true) ∧ Below w.heap.size w w' := by
  have h' : (256 : Int) < len := by omega
  go_enter Yba.func3, Yba.ntmps3
  go_wp2
  go_ret
  exact ⟨rfl, Below.refl _ _⟩

theorem own : ownKnob Yba.prog.godebug = none := by kernel_rfl
theorem laidOut : laidOutB Yba.prog = true := by kernel_rfl

set_option maxRecDepth 100000 in
theorem lifted (os : Os) (started : os.Started) (H : Type) (enc : TypeId × Value → H) :
    ReturnsInHanded {} Yba.checked os 3 .any (Rows.lawS5034BModelSpec.pre6 enc Yba.prog Yba.f3 Rows.lawS5034BModelRow.domain false) (Rows.lawS5034BModelSpec.post enc Yba.prog Yba.f3 false true false false) := by
  refine returnsInHanded_of_change (C := Yba.checked) own started (by kernel_rfl) Yba.func3
    (ChangeSpec.witness6 (enc := enc) (C := Yba.checked) false ⟨#[], #[.slice none 0 0], []⟩ 8 (by kernel_rfl) (by kernel_rfl) (by kernel_rfl) (by kernel_rfl)) ?_
  intro W base args ds gs before hval0 hW hcnd _
  have hval : ∀ (j : Nat) t v, Yba.f3.params[j]? = some t → args[j]? = some v → Value.okWide Yba.prog W .any base t v := hval0
  have hW' := hW
  obtain ⟨p, q, hA0, hV, rfl, hfz, hnd⟩ := hW
  have hA : DataW.TrodAll enc Yba.prog W 0 (fun _ => true) true Yba.f3.params.toList args.toList ds p := hA0
  rw [Yba.params3] at hA hval
  obtain ⟨v0, vs0, d0, ds0, p0, q0, hargs, rfl, rfl, h0, r0⟩ := trodAll_cons hA
  obtain ⟨rfl, rfl, rfl⟩ := trodAll_nil r0
  obtain rfl : args = #[v0] := by cases args; simp_all
  obtain ⟨rfl, rfl⟩ := trodVars_none hV
  obtain ⟨a0, len0, cap0, rfl⟩ := okWide_slice Yba.underlying22 (hval 0 22 v0 rfl rfl)
  have k0 := h0
  have lt0 : ∀ x ∈ p0, x.block < W.heap.size := by obtain ⟨m, hm⟩ := k0; exact DataW.trod_lt m _ _ _ hm
  clear hA0 hval0
  have hwalk : Calls Yba.prog 3 #[.slice a0 len0 cap0] W fun e w' => e = .returned (.bool true) ∧ Below W.heap.size W w' := by
    rcases open_ops h0 with rfl | ⟨b, off, E, L, Bs, C, rfl, hb, hc, hC⟩
    · exact walk0 a0 cap0 W
    · by_cases hlen : len0 ≤ 256
      · exact walk b off len0 cap0 E L Bs C W hlen hc hb hC
      · exact walkMany _ len0 cap0 W (by omega)
  refine hwalk.mono fun e W' ⟨he, bel⟩ => ?_
  subst he
  exact ⟨_, rfl, _, _, _, [], _, [], hW', trodAll_mk1 (shut_bool Yba.underlying4 _), (trodAll_cons_mk (Below.trod laidOut (by kernel_rfl) (of_decide_eq_true (by kernel_rfl)) k0 bel lt0) trodAll_mk0), rfl, bel.frame _, fun h => by cases h⟩

theorem over : Rows.lawS5034BModelRow.holds Yba.pinned (OpenSpec.ofChange Rows.lawS5034BModelSpec) :=
  OpenClaim.holds_of_wide 3 Yba.f3 rfl rfl rfl rfl rfl rfl rfl ⟨rfl, rfl, rfl, rfl, rfl⟩ rfl rfl rfl rfl rfl (by kernel_rfl) Yba.func3 (by kernel_rfl)
    (of_decide_eq_true (by kernel_rfl)) (by unfold Func.isWrapper; first | (rw [if_pos (by decide +kernel)]; kernel_rfl) | (rw [if_neg (by decide +kernel)]; exact ⟨rfl, rfl⟩))
    (fun os started H enc _ => lifted os started H enc)

/-- THE STATEMENT -/
theorem proved : Rows.LawS5034BModelSaid := over
#print axioms proved
end lawS5034BModel
end Go.Proofs.Ybulkczfq
