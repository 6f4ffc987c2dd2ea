/-
  THE WALK OF LawS5034CTable.
-/
import Derived.Test.YbulkczfqRunOf
import Derived.Deep.RegionHeld3
import Derived.Laws.Pointers
namespace Go.Proofs.Ybulkczfq
open Go.RowKit
attribute [local go_sem ↓] Go.wp_at_zero Go.wp_at_succ
theorem Log.at128 {w : World} {lb base : Nat} {ka : Option Addr} {kc : Nat} (h : Log w lb base ka kc (seqI 128)) :
    ∃ g, ka = some ⟨g, 0, none⟩ ∧ (∀ j, j < 128 → w.cell? ⟨g, j, none⟩ = some (.int .i32 j)) ∧ w.cell? ⟨lb, 0, none⟩ = some (.slice (some ⟨g, 0, none⟩) 128 kc) := by
  obtain ⟨g, cap, hv, _, _⟩ := h.row.form (by rw [seqI_len]; omega)
  obtain ⟨rfl, _⟩ : ka = some ⟨g, 0, none⟩ ∧ kc = cap := by simpa using hv
  refine ⟨g, rfl, fun j hj => ?_, by have := h.c; rw [seqI_len] at this; exact this⟩
  have := h.row.cells (g := g) rfl j (.int .i32 j) (by simp [seqI_get 128 j hj])
  simpa [Addr.add_lit] using this
theorem table_end {w : World} {s0 s1 t0 t1 : Int} {fv rv : Value} {wr : World} {T : Nat → Int} {ka1 : Option Addr} {kc1 : Nat} {ks1 : List Int} {ka2 : Option Addr} {kc2 : Nat} {ks2 : List Int} {o1 o2 o3 o4 : Obj}
    (h : Rs ((((w.alloc o1).alloc o2).alloc o3).alloc o4) (w.heap.size + 1 + 1 + 1 + 1) (w.heap.size + 1 + 1) (w.heap.size + 1 + 1 + 1) w.heap.size (w.heap.size + 1) s0 s1 t0 t1 fv rv wr T ka1 kc1 ks1 ka2 kc2 ks2) : Below w.heap.size w wr := by
  have b : Below w.heap.size w ((((w.alloc o1).alloc o2).alloc o3).alloc o4) := ((((Below.refl _ _).alloc (Nat.le_refl _) _).alloc (by simp) _).alloc (by simp; omega) _).alloc (by simp; omega) _
  exact b.trans (h.fr.below (by simp; omega) (fun i hi e => by omega))
set_option maxHeartbeats 2000000 in
set_option maxRecDepth 100000 in
theorem table_nil (s0 s1 t0 t1 : Int) (w : World) :
    Calls Yba.prog 5 #[.agg #[.int .u64 s0, .int .u64 s1], .agg #[.int .u64 t0, .int .u64 t1], .bool true] w fun e w' => e = .returned (.bool true) ∧ Below w.heap.size w w' := by
  have fe1 := feql_nil
  have fe2 := feql_func
  have o1 : bits .or .u8 0 1 = 1 := by decide
  have o2 : bits .or .u8 0 2 = 2 := by decide
  have o3 : bits .or .u8 1 2 = 3 := by decide
  go_enter Yba.func5, Yba.ntmps5
  go_wp2_with fail
  refine (runOf_nil (w.heap.size + 1 + 1) (w.heap.size + 1 + 1 + 1) w.heap.size (w.heap.size + 1) s0 s1 t0 t1 _ (by simp) (by simp) (by simp; omega) (by simp) (by omega) (by omega) (by omega) ?_ ?_ (by simp [go_sem]) (by simp [go_sem]) (by simp [go_sem]) (by simp [go_sem])).mono ?_
  · exact ⟨by simp [go_sem], by simp [go_sem], World.ownsRow_nil _ _ _ _⟩
  · exact ⟨by simp [go_sem], by simp [go_sem], World.ownsRow_nil _ _ _ _⟩
  rintro e w1 ⟨rfl, ka1, kc1, R⟩
  simp only [World.size_alloc] at R
  obtain ⟨g, rfl, hg, c1⟩ := R.log1.at128
  have c2 : w1.cell? ⟨w.heap.size + 1 + 1 + 1, 0, none⟩ = some (.slice none 0 0) := R.log2.c
  have k0 := R.k0
  have k1 := R.k1
  have k2 := R.k2
  go_wp2
  go_loopw [12] (fun i wr => ∃ k : Nat, k ≤ 128 ∧ i = .int .i64 k ∧ w1 = wr) (fun i _ => 128 - (intOf i).toNat)
  case atStart => exact ⟨0, by omega, rfl, rfl⟩
  case round =>
    obtain ⟨k, hk, rfl, rfl⟩ := hrel
    by_cases hlt : k < 128
    · have hc := hg k hlt
      have hk1 : (k : Int) < 128 := by omega
      go_wp2
      go_roundw
      case rel => exact ⟨k + 1, by omega, by go_num, by first | rfl | trivial⟩
      case measure => simp [intOf]; omega
    · have hk128 : k = 128 := by omega
      subst hk128
      go_wp2
      clear hg c1 c2 k0 k1 k2
      go_loopw [14] (fun i wr => ∃ k : Nat, k ≤ 256 ∧ i = .int .i64 k ∧ Rs ((((w.alloc (.cells #[.int .u64 s0, .int .u64 s1] 35)).alloc (.cells #[.int .u64 t0, .int .u64 t1] 35)).alloc (.cells #[.slice none 0 0] 36)).alloc (.cells #[.slice none 0 0] 36)) (w.heap.size + 1 + 1 + 1 + 1) (w.heap.size + 1 + 1) (w.heap.size + 1 + 1 + 1) w.heap.size (w.heap.size + 1) s0 s1 t0 t1 (.func (.func 8) #[] #[.pointer (some ⟨w.heap.size + 1 + 1, 0, none⟩), .pointer (some ⟨w.heap.size, 0, none⟩)]) .nilFunc wr (tabK s0 s1 t0 t1 false 128) (some ⟨g, 0, none⟩) kc1 (seqI 128) none 0 []) (fun i _ => 256 - (intOf i).toNat)
      case atStart => exact ⟨0, by omega, rfl, R⟩
      case round =>
        clear R
        obtain ⟨k, hk, rfl, R⟩ := hrel
        by_cases hlt : k < 256
        · have hk1 : (k : Int) < 256 := by omega
          by_cases h128 : k < 128
          · have hk2 : (k : Int) < 128 := by omega
            have c0 := R.e0
            have c1 := R.e1
            go_wp2_with fail
            refine (bit_any s0 s1 k _ (by omega) (by omega)).mono ?_
            rintro e w2 ⟨rfl, rfl⟩
            have R2 := R.alloc (.cells #[.int .u64 s0, .int .u64 s1] 35) (by omega) (by omega)
            clear R c0 c1
            by_cases hb : bitB s0 s1 k = true
            · have q := R2.tab k hlt
              have hv : tabK s0 s1 t0 t1 false 128 k = 1 := by simp [tabK, tabV, h128, hb]
              rw [hv] at q
              have k2 := R2.k2
              go_wp2
              go_roundw
              case rel => first | exact ⟨k + 1, by omega, by go_num, R2⟩ | ((repeat apply Exists.intro); (refine ⟨?_, rfl⟩); exact ⟨k + 1, by omega, by go_num, R2⟩)
              case measure => simp [intOf]; omega
            · have hb' : bitB s0 s1 k = false := by simpa using hb
              clear hb
              have q := R2.tab k hlt
              have hv : tabK s0 s1 t0 t1 false 128 k = 0 := by simp [tabK, tabV, h128, hb']
              rw [hv] at q
              have k2 := R2.k2
              go_wp2
              go_roundw
              case rel => first | exact ⟨k + 1, by omega, by go_num, R2⟩ | ((repeat apply Exists.intro); (refine ⟨?_, rfl⟩); exact ⟨k + 1, by omega, by go_num, R2⟩)
              case measure => simp [intOf]; omega
          · have hk2 : ¬ (k : Int) < 128 := by omega
            have q := R.tab k hlt
            have hv : tabK s0 s1 t0 t1 false 128 k = 0 := by simp [tabK, h128]
            rw [hv] at q
            have k2 := R.k2
            go_wp2
            go_roundw
            case rel => exact ⟨k + 1, by omega, by go_num, R⟩
            case measure => simp [intOf]; omega
        · have hk256 : k = 256 := by omega
          subst hk256
          have k0 := R.k0
          have k1 := R.k1
          have c0 := R.e0
          have c1 := R.e1
          have hsz := R.siz
          go_wp2_with fail
          go_region_held3 (fun w' => w'.cell? ⟨w.heap.size + 1 + 1 + 1 + 1 + 1, 0, none⟩ = some (.func (.func 8) #[] #[.pointer (some ⟨w.heap.size + 1 + 1, 0, none⟩), .pointer (some ⟨w.heap.size, 0, none⟩)]) ∧ w'.cell? ⟨w.heap.size, 0, none⟩ = some (.int .u64 s0) ∧ w'.cell? ⟨w.heap.size, 1, none⟩ = some (.int .u64 s1))
            (first | exact ⟨R6.k0, R6.e0, R6.e1⟩ | exact ⟨R5.k0, R5.e0, R5.e1⟩ | exact ⟨k0, c0, c1⟩)
            (first
              | (go_at_call 8; refine (clos8 (w.heap.size + 1 + 1) w.heap.size (w.heap.size + 1 + 1 + 1 + 1 + 2) s0 s1 65 (some ⟨g, 0, none⟩) kc1 (seqI 128) _ (by decide) (by decide) (by rw [seqI_len]; omega) (by exact (R.drewN 1).log1) (by exact (R.drewN 1).e0) (by exact (R.drewN 1).e1) (by omega) (by omega) (by omega) (by exact (R.drewN 1).siz)).mono ?_; rintro e w5 ⟨rfl, ka5, kc5, L5, ho5, hf5⟩; have R5 := (R.drewN 1).call1 (by omega) (by omega) (by omega) (by omega) (by omega) (by omega) (by omega) L5 ho5 hf5; clear L5 ho5 hf5)
              | (go_at_call 9; refine (bit_any s0 s1 65 _ (by decide) (by decide)).mono ?_; rintro e w6 ⟨rfl, rfl⟩; have R6 := R5.alloc (.cells #[.int .u64 s0, .int .u64 s1] 35) (by omega) (by omega)))
          go_wp2
          go_quiet (fail)
          go_wp2
          go_ret
          exact ⟨rfl, table_end (R6.drewN _)⟩
set_option maxHeartbeats 2000000 in
set_option maxRecDepth 100000 in
theorem table_some (s0 s1 t0 t1 : Int) (w : World) :
    Calls Yba.prog 5 #[.agg #[.int .u64 s0, .int .u64 s1], .agg #[.int .u64 t0, .int .u64 t1], .bool false] w fun e w' => e = .returned (.bool true) ∧ Below w.heap.size w w' := by
  have fe1 := feql_nil
  have fe2 := feql_func
  have o1 : bits .or .u8 0 1 = 1 := by decide
  have o2 : bits .or .u8 0 2 = 2 := by decide
  have o3 : bits .or .u8 1 2 = 3 := by decide
  go_enter Yba.func5, Yba.ntmps5
  go_wp2_with fail
  refine (runOf_some (w.heap.size + 1 + 1) (w.heap.size + 1 + 1 + 1) w.heap.size (w.heap.size + 1) s0 s1 t0 t1 _ (by simp) (by simp) (by simp; omega) (by simp) (by omega) (by omega) (by omega) (by omega) (by omega) ?_ ?_ (by simp [go_sem]) (by simp [go_sem]) (by simp [go_sem]) (by simp [go_sem])).mono ?_
  · exact ⟨by simp [go_sem], by simp [go_sem], World.ownsRow_nil _ _ _ _⟩
  · exact ⟨by simp [go_sem], by simp [go_sem], World.ownsRow_nil _ _ _ _⟩
  rintro e w1 ⟨rfl, ka1, kc1, ka2, kc2, R⟩
  simp only [World.size_alloc] at R
  obtain ⟨g, rfl, hg, c1⟩ := R.log1.at128
  obtain ⟨g2, rfl, hg2, c2⟩ := R.log2.at128
  have k0 := R.k0
  have k1 := R.k1
  have k2 := R.k2
  go_wp2
  go_loopw [12] (fun i wr => ∃ k : Nat, k ≤ 128 ∧ i = .int .i64 k ∧ w1 = wr) (fun i _ => 128 - (intOf i).toNat)
  case atStart => exact ⟨0, by omega, rfl, rfl⟩
  case round =>
    obtain ⟨k, hk, rfl, rfl⟩ := hrel
    by_cases hlt : k < 128
    · have hc := hg k hlt
      have hk1 : (k : Int) < 128 := by omega
      go_wp2
      go_roundw
      case rel => exact ⟨k + 1, by omega, by go_num, by first | rfl | trivial⟩
      case measure => simp [intOf]; omega
    · have hk128 : k = 128 := by omega
      subst hk128
      go_wp2
      go_loopw [13] (fun i wr => ∃ k : Nat, k ≤ 128 ∧ i = .int .i64 k ∧ w1 = wr) (fun i _ => 128 - (intOf i).toNat)
      case atStart => exact ⟨0, by omega, rfl, rfl⟩
      case round =>
        obtain ⟨k, hk, rfl, rfl⟩ := hrel
        by_cases hlt : k < 128
        · have hc := hg2 k hlt
          have hk1 : (k : Int) < 128 := by omega
          go_wp2
          go_roundw
          case rel => exact ⟨k + 1, by omega, by go_num, by first | rfl | trivial⟩
          case measure => simp [intOf]; omega
        · have hk128 : k = 128 := by omega
          subst hk128
          go_wp2
          clear hg c1 c2 k0 k1 k2 hg2
          go_loopw [14] (fun i wr => ∃ k : Nat, k ≤ 256 ∧ i = .int .i64 k ∧ Rs ((((w.alloc (.cells #[.int .u64 s0, .int .u64 s1] 35)).alloc (.cells #[.int .u64 t0, .int .u64 t1] 35)).alloc (.cells #[.slice none 0 0] 36)).alloc (.cells #[.slice none 0 0] 36)) (w.heap.size + 1 + 1 + 1 + 1) (w.heap.size + 1 + 1) (w.heap.size + 1 + 1 + 1) w.heap.size (w.heap.size + 1) s0 s1 t0 t1 (.func (.func 8) #[] #[.pointer (some ⟨w.heap.size + 1 + 1, 0, none⟩), .pointer (some ⟨w.heap.size, 0, none⟩)]) (.func (.func 10) #[] #[.pointer (some ⟨w.heap.size + 1 + 1 + 1, 0, none⟩), .pointer (some ⟨w.heap.size + 1, 0, none⟩)]) wr (tabK s0 s1 t0 t1 true 128) (some ⟨g, 0, none⟩) kc1 (seqI 128) (some ⟨g2, 0, none⟩) kc2 (seqI 128)) (fun i _ => 256 - (intOf i).toNat)
          case atStart => exact ⟨0, by omega, rfl, R⟩
          case round =>
            clear R
            obtain ⟨k, hk, rfl, R⟩ := hrel
            by_cases hlt : k < 256
            · have hk1 : (k : Int) < 256 := by omega
              by_cases h128 : k < 128
              · have hk2 : (k : Int) < 128 := by omega
                have c0 := R.e0
                have c1 := R.e1
                go_wp2_with fail
                refine (bit_any s0 s1 k _ (by omega) (by omega)).mono ?_
                rintro e w2 ⟨rfl, rfl⟩
                have R2 := R.alloc (.cells #[.int .u64 s0, .int .u64 s1] 35) (by omega) (by omega)
                clear R c0 c1
                have c2 := R2.e2
                have c3 := R2.e3
                by_cases hb : bitB s0 s1 k = true
                · go_wp2_with fail
                  refine (bit_any t0 t1 k _ (by omega) (by omega)).mono ?_
                  rintro e w3 ⟨rfl, rfl⟩
                  have R3 := R2.alloc (.cells #[.int .u64 t0, .int .u64 t1] 35) (by omega) (by omega)
                  clear R2 c2 c3
                  by_cases hb2 : bitB t0 t1 k = true
                  · have q := R3.tab k hlt
                    have hv : tabK s0 s1 t0 t1 true 128 k = 3 := by simp [tabK, tabV, h128, hb, hb2]
                    rw [hv] at q
                    have k2 := R3.k2
                    go_wp2
                    go_roundw
                    case rel => first | exact ⟨k + 1, by omega, by go_num, R3⟩ | ((repeat apply Exists.intro); (refine ⟨?_, rfl⟩); exact ⟨k + 1, by omega, by go_num, R3⟩)
                    case measure => simp [intOf]; omega
                  · have hb2' : bitB t0 t1 k = false := by simpa using hb2
                    clear hb2
                    have q := R3.tab k hlt
                    have hv : tabK s0 s1 t0 t1 true 128 k = 1 := by simp [tabK, tabV, h128, hb, hb2']
                    rw [hv] at q
                    have k2 := R3.k2
                    go_wp2
                    go_roundw
                    case rel => first | exact ⟨k + 1, by omega, by go_num, R3⟩ | ((repeat apply Exists.intro); (refine ⟨?_, rfl⟩); exact ⟨k + 1, by omega, by go_num, R3⟩)
                    case measure => simp [intOf]; omega
                · have hb' : bitB s0 s1 k = false := by simpa using hb
                  clear hb
                  go_wp2_with fail
                  refine (bit_any t0 t1 k _ (by omega) (by omega)).mono ?_
                  rintro e w3 ⟨rfl, rfl⟩
                  have R3 := R2.alloc (.cells #[.int .u64 t0, .int .u64 t1] 35) (by omega) (by omega)
                  clear R2 c2 c3
                  by_cases hb2 : bitB t0 t1 k = true
                  · have q := R3.tab k hlt
                    have hv : tabK s0 s1 t0 t1 true 128 k = 2 := by simp [tabK, tabV, h128, hb', hb2]
                    rw [hv] at q
                    have k2 := R3.k2
                    go_wp2
                    go_roundw
                    case rel => first | exact ⟨k + 1, by omega, by go_num, R3⟩ | ((repeat apply Exists.intro); (refine ⟨?_, rfl⟩); exact ⟨k + 1, by omega, by go_num, R3⟩)
                    case measure => simp [intOf]; omega
                  · have hb2' : bitB t0 t1 k = false := by simpa using hb2
                    clear hb2
                    have q := R3.tab k hlt
                    have hv : tabK s0 s1 t0 t1 true 128 k = 0 := by simp [tabK, tabV, h128, hb', hb2']
                    rw [hv] at q
                    have k2 := R3.k2
                    go_wp2
                    go_roundw
                    case rel => first | exact ⟨k + 1, by omega, by go_num, R3⟩ | ((repeat apply Exists.intro); (refine ⟨?_, rfl⟩); exact ⟨k + 1, by omega, by go_num, R3⟩)
                    case measure => simp [intOf]; omega
              · have hk2 : ¬ (k : Int) < 128 := by omega
                have q := R.tab k hlt
                have hv : tabK s0 s1 t0 t1 true 128 k = 0 := by simp [tabK, h128]
                rw [hv] at q
                have k2 := R.k2
                go_wp2
                go_roundw
                case rel => exact ⟨k + 1, by omega, by go_num, R⟩
                case measure => simp [intOf]; omega
            · have hk256 : k = 256 := by omega
              subst hk256
              have k0 := R.k0
              have k1 := R.k1
              have c0 := R.e0
              have c1 := R.e1
              have hsz := R.siz
              go_wp2_with fail
              go_region_held3 (fun w' => w'.cell? ⟨w.heap.size + 1 + 1 + 1 + 1 + 1, 0, none⟩ = some (.func (.func 8) #[] #[.pointer (some ⟨w.heap.size + 1 + 1, 0, none⟩), .pointer (some ⟨w.heap.size, 0, none⟩)]) ∧ w'.cell? ⟨w.heap.size, 0, none⟩ = some (.int .u64 s0) ∧ w'.cell? ⟨w.heap.size, 1, none⟩ = some (.int .u64 s1))
                (first | exact ⟨R6.k0, R6.e0, R6.e1⟩ | exact ⟨R5.k0, R5.e0, R5.e1⟩ | exact ⟨k0, c0, c1⟩)
                (first
                  | (go_at_call 8; refine (clos8 (w.heap.size + 1 + 1) w.heap.size (w.heap.size + 1 + 1 + 1 + 1 + 2) s0 s1 65 (some ⟨g, 0, none⟩) kc1 (seqI 128) _ (by decide) (by decide) (by rw [seqI_len]; omega) (by exact (R.drewN 1).log1) (by exact (R.drewN 1).e0) (by exact (R.drewN 1).e1) (by omega) (by omega) (by omega) (by exact (R.drewN 1).siz)).mono ?_; rintro e w5 ⟨rfl, ka5, kc5, L5, ho5, hf5⟩; have R5 := (R.drewN 1).call1 (by omega) (by omega) (by omega) (by omega) (by omega) (by omega) (by omega) L5 ho5 hf5; clear L5 ho5 hf5)
                  | (go_at_call 9; refine (bit_any s0 s1 65 _ (by decide) (by decide)).mono ?_; rintro e w6 ⟨rfl, rfl⟩; have R6 := R5.alloc (.cells #[.int .u64 s0, .int .u64 s1] 35) (by omega) (by omega)))
              have j1 := R6.k1
              have j2 := R6.e2
              have j3 := R6.e3
              have hsz6 := R6.siz
              go_wp2_with fail
              go_region_held3 (fun w' => w'.cell? ⟨w.heap.size + 1 + 1 + 1 + 1 + 1, 1, none⟩ = some (.func (.func 10) #[] #[.pointer (some ⟨w.heap.size + 1 + 1 + 1, 0, none⟩), .pointer (some ⟨w.heap.size + 1, 0, none⟩)]) ∧ w'.cell? ⟨w.heap.size + 1, 0, none⟩ = some (.int .u64 t0) ∧ w'.cell? ⟨w.heap.size + 1, 1, none⟩ = some (.int .u64 t1))
                (first | exact ⟨R8.k1, R8.e2, R8.e3⟩ | exact ⟨R7.k1, R7.e2, R7.e3⟩ | exact ⟨j1, j2, j3⟩)
                (first
                  | (go_at_call 10; refine (clos10 (w.heap.size + 1 + 1 + 1) (w.heap.size + 1) (w.heap.size + 1 + 1 + 1 + 1 + 2) t0 t1 97 (some ⟨g2, 0, none⟩) kc2 (seqI 128) _ (by decide) (by decide) (by rw [seqI_len]; omega) (by exact (R6.drewN 1).log2) (by exact (R6.drewN 1).e2) (by exact (R6.drewN 1).e3) (by omega) (by omega) (by omega) (by exact (R6.drewN 1).siz)).mono ?_; rintro e w7 ⟨rfl, ka7, kc7, L7, ho7, hf7⟩; have R7 := (R6.drewN 1).call2 (by omega) (by omega) (by omega) (by omega) (by omega) (by omega) (by omega) L7 ho7 hf7; clear L7 ho7 hf7)
                  | (go_at_call 9; refine (bit_any t0 t1 97 _ (by decide) (by decide)).mono ?_; rintro e w8 ⟨rfl, rfl⟩; have R8 := R7.alloc (.cells #[.int .u64 t0, .int .u64 t1] 35) (by omega) (by omega)))
              go_wp2
              go_ret
              exact ⟨rfl, table_end R8⟩
end Go.Proofs.Ybulkczfq
