/-
  THE ROW OF LawS5034ACached, AND ITS TIED CARD.
-/
import Derived.Test.YbulkczfqDoorRows
import Derived.Test.YbulkczfqDoorTie
import Derived.Test.YbulkczfqDoorCards
import Derived.Test.YbulkczfqDoorWalk
import Derived.ProofKit
import Derived.LaidMore
import Derived.OpenShut
import Derived.OpenVars
import Derived.Stop.Joined
import Derived.SevenTiedAt
namespace Go.Proofs.YbulkczfqDoor
open Go.ChangeShapes Go.WideShapes Go.ChangeAt Go.RowKit
theorem own : ownKnob Ybad.prog.godebug = none := by kernel_rfl
theorem laidOut : laidOutB Ybad.prog = true := by kernel_rfl
set_option maxRecDepth 100000 in
/-- too many ends -/
theorem walkMany (a : Option Addr) (len cap : Nat) (at_ : Int) (closed : Bool) (sel iv : Int) (w : World) (h : 1024 < len) :
    Calls Ybad.prog 3 #[.slice a len cap, .int .i64 at_, .bool closed, .int .u8 sel, .int .u16 iv] w fun e w' => e = .returned (.bool true) ∧ Below w.heap.size w w' := by
  have h' : (1024 : Int) < len := by omega
  go_enter Ybad.func3, Ybad.ntmps3
  go_wp2
  go_ret
  exact ⟨rfl, Below.refl _ _⟩
/-- the heap that the door's own run leaves meets the condition -/
theorem door_met (os : Os) (args : Array Value) : laidMetH Ybad.prog Rows.lawS5034ACachedRow.laid ((World.doorLaid Ybad.prog 400 os).forCall (fun _ _ => 0) ⟨#[], args, []⟩).memory :=
  laidMetH_of_parts3 (fuel := 8) (laidMet_of_run' 8 (by kernel_rfl) (by kernel_rfl)) (by kernel_rfl) (by kernel_rfl)

set_option maxRecDepth 100000 in
theorem lifted (os : Os) (started : os.Started) (H : Type) (enc : TypeId × Value → H) :
    ReturnsInHanded {} Ybad.checked os 3 .any (fun w args => (Rows.lawS5034ACachedSpec.pre enc Ybad.prog Ybad.f3 [] false w args ∧ laidMetH Ybad.prog Rows.lawS5034ACachedRow.laid w) ∧ sizedMet enc Ybad.prog Ybad.f3 (OpenSpec.ofChange Rows.lawS5034ACachedSpec) false w args)
      (Rows.lawS5034ACachedSpec.post enc Ybad.prog Ybad.f3 false true false false) := by
  refine returnsInHanded_of_change_and (C := Ybad.checked) (X := fun w _ => laidMetH Ybad.prog Rows.lawS5034ACachedRow.laid w) (fun _ _ _ hh h => h.of_heap hh) own started (by kernel_rfl) Ybad.func3
    (ChangeSpec.witness_shaped (enc := enc) (C := Ybad.checked) (os := os) (X := fun w _ => laidMetH Ybad.prog Rows.lawS5034ACachedRow.laid w) false (World.doorLaid Ybad.prog 400 os) #[.slice none 0 0, .int .i64 0, .bool false, .int .u8 0, .int .u16 0] 8 rfl (World.shaped_of_RefB (by kernel_rfl) (by kernel_rfl)) (by kernel_rfl) (by kernel_rfl) (by kernel_rfl) (door_met os _)) ?_
  intro W base args ds gs before hval0 hW _ _ hL _
  have hval : ∀ (j : Nat) t v, Ybad.f3.params[j]? = some t → args[j]? = some v → Value.okWide Ybad.prog W .any base t v := hval0
  have hW' := hW
  obtain ⟨p, q, hA0, hV, rfl, hfz, hnd⟩ := hW
  have hA : DataW.TrodAll enc Ybad.prog W 0 (fun _ => true) true Ybad.f3.params.toList args.toList ds p := hA0
  rw [Ybad.params3] at hA hval
  obtain ⟨v0, vs0, d0, ds0, p0, q0, hargs, rfl, rfl, h0, r0⟩ := trodAll_cons hA
  obtain ⟨v1, vs1, d1, ds1, p1, q1, rfl, rfl, rfl, h1, r1⟩ := trodAll_cons r0
  obtain ⟨v2, vs2, d2, ds2, p2, q2, rfl, rfl, rfl, h2, r2⟩ := trodAll_cons r1
  obtain ⟨v3, vs3, d3, ds3, p3, q3, rfl, rfl, rfl, h3, r3⟩ := trodAll_cons r2
  obtain ⟨v4, vs4, d4, ds4, p4, q4, rfl, rfl, rfl, h4, r4⟩ := trodAll_cons r3
  obtain ⟨rfl, rfl, rfl⟩ := trodAll_nil r4
  obtain rfl : args = #[v0, v1, v2, v3, v4] := by cases args; simp_all
  obtain ⟨a0, len0, cap0, rfl⟩ := okWide_slice Ybad.underlying22 (hval 0 22 v0 rfl rfl)
  obtain ⟨a1, rfl, rfl, rfl, w1⟩ := open_int Ybad.underlying3 (hval 1 3 v1 rfl rfl) h1
  obtain ⟨a2, rfl, rfl, rfl⟩ := open_bool Ybad.underlying4 (hval 2 4 v2 rfl rfl) h2
  obtain ⟨a3, rfl, rfl, rfl, w3⟩ := open_int Ybad.underlying5 (hval 3 5 v3 rfl rfl) h3
  obtain ⟨a4, rfl, rfl, rfl, w4⟩ := open_int Ybad.underlying23 (hval 4 23 v4 rfl rfl) h4
  have b3 := bounds_u8 w3
  have b4 := bounds_u16 w4
  have k0 := h0
  have lt0 : ∀ x ∈ p0, x.block < W.heap.size := by obtain ⟨m, hm⟩ := k0; exact DataW.trod_lt m _ _ _ hm
  clear hA0 hval0
  have hVn : DataW.TrodVars enc Ybad.prog W (fun _ => true) [_, _] gs q := hV
  have hV2 := hVn
  obtain ⟨_, _, _, _, e0, _, _, _, _, _, e1, _, rfl, _⟩ := trodVars_two hVn
  have hwalk : Calls Ybad.prog 3 #[.slice a0 len0 cap0, .int .i64 a1, .bool a2, .int .u8 a3, .int .u16 a4] W fun e w' => e = .returned (.bool true) ∧ Below W.heap.size W w' := by
    by_cases hlen : len0 ≤ 1024
    · obtain ⟨fuel, hf⟩ := h0
      rcases open_ints Ybad.underlying22 Ybad.underlying3 (by kernel_rfl) hf with ⟨hcs, _⟩ | ⟨x, l, c, zs, hcs, _, hl, hm, hz, _, hcell, hwz⟩
      · simp [Value.cells] at hcs
        obtain ⟨rfl, rfl, rfl⟩ := hcs
        exact walk none 0 0 (fun _ => 0) a1 a2 a3 a4 W (by omega) (fun h => absurd h (by omega)) (by omega) (by omega)
      · simp [Value.cells] at hcs
        obtain ⟨rfl, rfl, rfl⟩ := hcs
        refine walk _ len0 cap0 (fun k => zs.getD k 0) a1 a2 a3 a4 W hlen (fun h => ?_) (by omega) (by omega)
        have hzc : zs.length = cap0 := by simpa using hz
        obtain ⟨b, off, rfl, hc⟩ := ints_at hcell (by omega)
        exact ⟨b, off, rfl, lt_of_cell (hc 0 (by omega)), fun k hk => hc k (by omega)⟩
    · exact walkMany a0 len0 cap0 a1 a2 a3 a4 W (by omega)
  refine hwalk.mono fun e W' ⟨he, bel⟩ => ?_
  subst he
  exact ⟨_, rfl, _, _, _, [], _, _, hW', trodAll_mk1 (shut_bool Ybad.underlying4 _), trodAll_cons_mk (Below.trod laidOut (by kernel_rfl) (of_decide_eq_true (by kernel_rfl)) k0 bel lt0) (trodAll_cons_mk (shut_int Ybad.underlying3 w1) (trodAll_cons_mk (shut_bool Ybad.underlying4 _) (trodAll_cons_mk (shut_int Ybad.underlying5 w3) (trodAll_cons_mk (shut_int Ybad.underlying23 w4) trodAll_mk0)))), Below.trodVars laidOut bel (by kernel_rfl) hV2, bel.frame _, fun h => by cases h⟩

theorem row_holds : Rows.LawS5034ACachedSaid :=
  OpenClaim.holds_of_wide 3 Ybad.f3 rfl rfl rfl rfl rfl rfl rfl ⟨rfl, rfl, rfl, rfl, rfl⟩ rfl rfl rfl rfl rfl (by kernel_rfl) Ybad.func3 (by kernel_rfl)
    (of_decide_eq_true (by kernel_rfl)) (by unfold Func.isWrapper; first | (rw [if_pos (by decide +kernel)]; kernel_rfl) | (rw [if_neg (by decide +kernel)]; exact ⟨rfl, rfl⟩))
    (fun os started H enc _ => lifted os started H enc)

/-- THE STATEMENT: THE TIED CARD -/
theorem lawS5034ACached_card : Rows.LawS5034ACachedCardSaid :=
  Claim7.holds_tied_plain_at .later [] [.wider, .wider] true Rows.lawS5034ACachedCard.stood.harness false
    row_holds (fun _ h => by cases h) (by kernel_rfl) (fun _ h => by cases h) lawS5034ACached_row_tie rfl ⟨rfl, rfl⟩ (by kernel_rfl) rfl
    (fun f fn hf hfn => by
      obtain rfl : f = 3 := Option.some.inj ((show Ybad.prog.funcNamed Rows.lawS5034ACachedRow.func = some 3 by kernel_rfl).symm.trans hf) |>.symm
      obtain rfl : fn = Ybad.f3 := (Option.some.inj (Ybad.func3.symm.trans hfn)).symm
      exact ⟨by kernel_rfl, fun j t ht => by
        rw [Ybad.params3] at ht
        have hmem : t ∈ [22, 3, 4, 5, 23] := by
          have := List.mem_of_getElem? (l := [22, 3, 4, 5, 23]) (i := j) (a := t) (by simpa using ht)
          exact this
        have hall : ([22, 3, 4, 5, 23] : List TypeId).all (fun t => !Ybad.prog.wantsStandIn t) = true := by kernel_rfl
        have hthis : Ybad.prog.wantsStandIn t = false := by simpa using List.all_eq_true.1 hall t hmem
        exact hthis⟩)
    (by kernel_rfl)
#print axioms lawS5034ACached_card
end Go.Proofs.YbulkczfqDoor
