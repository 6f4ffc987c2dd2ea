/-
  THE WALKS OF runOf: with no second function, and with one.
-/
import Derived.Test.YbulkczfqTab
import Derived.Deep.DrawnRows
namespace Go.Proofs.Ybulkczfq
open Go.RowKit
attribute [local go_sem ↓] Go.wp_at_zero Go.wp_at_succ
theorem tabK_step {s0 s1 t0 t1 : Int} {on : Bool} {k : Nat} {v : Int} (hv : v = tabV s0 s1 t0 t1 on k) (T : Nat → Int) (hT : ∀ j, j < 256 → j ≠ k → T j = tabK s0 s1 t0 t1 on k j) (hk : T k = v) (j : Nat) (hj : j < 256) : T j = tabK s0 s1 t0 t1 on (k + 1) j := by
  unfold tabK
  by_cases e : j = k
  · subst e; rw [hk, if_pos (by omega), hv]
  · rw [hT j hj e]
    unfold tabK
    by_cases h : j < k
    · rw [if_pos h, if_pos (by omega)]
    · rw [if_neg h, if_neg (by omega)]
theorem Z47_cell (w : World) (j : Nat) (hj : j < 256) : (w.alloc (.cells Z47 47)).cell? ⟨w.heap.size, j, none⟩ = some (.int .u8 0) := by
  have h := (MapKept.heap_alloc w (.cells Z47 47)).1
  unfold World.cell?
  simp only [h]
  show Z47[j]? = _
  unfold Z47
  rw [Array.getElem?_replicate, if_pos hj]
theorem tabK_zero (s0 s1 t0 t1 : Int) (on : Bool) (j : Nat) : tabK s0 s1 t0 t1 on 0 j = 0 := by simp [tabK]

theorem fneq_nil (w : World) : (binOp .neq 38 .nilFunc .nilFunc).run Yba.prog w = .ok (.bool false) w := by kernel_rfl
theorem fneq_func (n : FuncId) (cs : Array Value) (w : World) : (binOp .neq 38 (.func (.func n) #[] cs) .nilFunc).run Yba.prog w = .ok (.bool true) w := by kernel_rfl
theorem feql_nil (w : World) : (binOp .eql 38 .nilFunc .nilFunc).run Yba.prog w = .ok (.bool true) w := by kernel_rfl
theorem feql_func (n : FuncId) (cs : Array Value) (w : World) : (binOp .eql 38 (.func (.func n) #[] cs) .nilFunc).run Yba.prog w = .ok (.bool false) w := by kernel_rfl
theorem Rs.start {lb1 lb2 sb1 sb2 : Nat} {s0 s1 t0 t1 : Int} {w : World} (fv rv : Value) (on : Bool) (n3 : sb1 < w.heap.size) (n4 : sb2 < w.heap.size)
    (l1 : Log w lb1 (w.heap.size + 2) none 0 []) (l2 : Log w lb2 (w.heap.size + 2) none 0 []) (e0 : w.cell? ⟨sb1, 0, none⟩ = some (.int .u64 s0)) (e1 : w.cell? ⟨sb1, 1, none⟩ = some (.int .u64 s1)) (e2 : w.cell? ⟨sb2, 0, none⟩ = some (.int .u64 t0)) (e3 : w.cell? ⟨sb2, 1, none⟩ = some (.int .u64 t1)) :
    Rs w w.heap.size lb1 lb2 sb1 sb2 s0 s1 t0 t1 fv rv ((w.alloc (.cells Z47 47)).alloc (.cells #[fv, rv, .pointer (some ⟨w.heap.size, 0, none⟩)] 43)) (tabK s0 s1 t0 t1 on 0) none 0 [] none 0 [] := by
  have hf : Fr (fun _ => False) w ((w.alloc (.cells Z47 47)).alloc (.cells #[fv, rv, .pointer (some ⟨w.heap.size, 0, none⟩)] 43)) := (Fr.alloc w _).trans (Fr.alloc _ _) (fun _ _ e => e)
  have hb := (MapKept.heap_alloc (w.alloc (.cells Z47 47)) (.cells #[fv, rv, .pointer (some ⟨w.heap.size, 0, none⟩)] 43)).1
  rw [World.size_alloc] at hb
  have hc : ∀ j, ((w.alloc (.cells Z47 47)).alloc (.cells #[fv, rv, .pointer (some ⟨w.heap.size, 0, none⟩)] 43)).cell? ⟨w.heap.size + 1, j, none⟩ = #[fv, rv, .pointer (some ⟨w.heap.size, 0, none⟩)][j]? := by
    intro j
    unfold World.cell?
    simp only [hb]
    rfl
  have ha := Fr.alloc (w.alloc (.cells Z47 47)) (.cells #[fv, rv, .pointer (some ⟨w.heap.size, 0, none⟩)] 43)
  refine ⟨l1.keeps hf id (fun _ _ => id), l2.keeps hf id (fun _ _ => id), (fun g hg => by cases hg), (hf.cell n3 id).trans e0, (hf.cell n3 id).trans e1, (hf.cell n4 id).trans e2, (hf.cell n4 id).trans e3, hc 0, hc 1, hc 2, fun j hj => ?_, fun j hj => ?_, by simp, hf.mono (fun _ e => e.elim)⟩
  · rw [tabK_zero, ha.cell (by simp) id]
    exact Z47_cell w j hj
  · rw [ha.frozen (by simp) id]
    have h := (MapKept.heap_alloc w (.cells Z47 47)).1
    unfold World.frozen?
    simp only [h]
    simp
set_option maxHeartbeats 1000000 in
set_option maxRecDepth 100000 in
theorem runOf_nil (lb1 lb2 sb1 sb2 : Nat) (s0 s1 t0 t1 : Int) (w : World) (n1 : lb1 < w.heap.size) (n2 : lb2 < w.heap.size) (n3 : sb1 < w.heap.size) (n4 : sb2 < w.heap.size) (d1 : lb1 ≠ lb2) (d2 : sb1 ≠ lb1) (d3 : sb2 ≠ lb1)
    (l1 : Log w lb1 (w.heap.size + 2) none 0 []) (l2 : Log w lb2 (w.heap.size + 2) none 0 []) (e0 : w.cell? ⟨sb1, 0, none⟩ = some (.int .u64 s0)) (e1 : w.cell? ⟨sb1, 1, none⟩ = some (.int .u64 s1)) (e2 : w.cell? ⟨sb2, 0, none⟩ = some (.int .u64 t0)) (e3 : w.cell? ⟨sb2, 1, none⟩ = some (.int .u64 t1)) :
    Calls Yba.prog 11 #[.func (.func 8) #[] #[.pointer (some ⟨lb1, 0, none⟩), .pointer (some ⟨sb1, 0, none⟩)], .nilFunc] w fun e w' => e = .returned (.pointer (some ⟨w.heap.size + 1, 0, none⟩)) ∧
      ∃ ka1 kc1, Rs w w.heap.size lb1 lb2 sb1 sb2 s0 s1 t0 t1 (.func (.func 8) #[] #[.pointer (some ⟨lb1, 0, none⟩), .pointer (some ⟨sb1, 0, none⟩)]) .nilFunc w' (tabK s0 s1 t0 t1 false 128) ka1 kc1 (seqI 128) none 0 [] := by
  have hz47 := zero47
  have o1 : bits .or .u8 0 1 = 1 := by decide
  have fn := fneq_nil
  go_enter Yba.func11, Yba.ntmps11
  go_wp2
  clear hz47
  go_loopw [12] (fun i wr => ∃ (k : Nat) (ka1 : Option Addr) (kc1 : Nat), k ≤ 128 ∧ i = .int .i32 k ∧ Rs w w.heap.size lb1 lb2 sb1 sb2 s0 s1 t0 t1 (.func (.func 8) #[] #[.pointer (some ⟨lb1, 0, none⟩), .pointer (some ⟨sb1, 0, none⟩)]) .nilFunc wr (tabK s0 s1 t0 t1 false k) ka1 kc1 (seqI k) none 0 []) (fun i _ => 128 - (intOf i).toNat)
  case atStart =>
    refine ⟨0, none, 0, by omega, rfl, ?_⟩
    exact Rs.start _ _ false n3 n4 l1 l2 e0 e1 e2 e3
  case round =>
    obtain ⟨k, ka1, kc1, hk, rfl, hR⟩ := hrel
    by_cases hlt : k < 128
    · have hk0 : (0 : Int) ≤ (k : Int) := by omega
      have hk1 : (k : Int) < 128 := by omega
      have hk2 : (k : Int) < 256 := by omega
      have hsz := hR.siz
      go_wp2_with fail
      refine (clos8 lb1 sb1 (w.heap.size + 2) s0 s1 k ka1 kc1 (seqI k) wr (by omega) (by omega) (by rw [seqI_len]; omega) hR.log1 hR.e0 hR.e1 (by omega) (by omega) d2 hR.siz).mono ?_
      rintro e w1 ⟨rfl, ka', kc', L, ho, hf⟩
      have R1 := hR.call1 n1 n2 n3 n4 d1 d2 d3 L ho hf
      rw [seqI_succ] at R1
      clear L ho hf hR
      have q0 := R1.k2
      have q1 := R1.tab k (by omega)
      have q2 := R1.fz k (by omega)
      have q3 : tabK s0 s1 t0 t1 false k k = 0 := by simp [tabK]
      rw [q3] at q1
      by_cases hb : bitB s0 s1 k = true
      · go_wp2
        go_region
        go_wp2
        go_roundw
        case rel => exact ⟨k + 1, ka', kc', by omega, by go_num, ((R1.store n1 n2 n3 n4 (by omega) 1).tabs (tabK_step (v := 1) (by simp [tabV, hb]) _ (fun j _ e => by simp [e]) (by simp))).drewN 1⟩
        case measure => simp [intOf]; omega
      · have hb' : bitB s0 s1 k = false := by simpa using hb
        clear hb
        go_wp2
        go_roundw
        case rel => exact ⟨k + 1, ka', kc', by omega, by go_num, R1.tabs (tabK_step (v := 0) (by simp [tabV, hb']) _ (fun _ _ _ => rfl) q3)⟩
        case measure => simp [intOf]; omega
    · have hk128 : k = 128 := by omega
      subst hk128
      go_wp2
      go_ret
      exact ⟨rfl, ka1, kc1, hR⟩
set_option maxHeartbeats 1000000 in
set_option maxRecDepth 100000 in
theorem runOf_some (lb1 lb2 sb1 sb2 : Nat) (s0 s1 t0 t1 : Int) (w : World) (n1 : lb1 < w.heap.size) (n2 : lb2 < w.heap.size) (n3 : sb1 < w.heap.size) (n4 : sb2 < w.heap.size) (d1 : lb1 ≠ lb2) (d2 : sb1 ≠ lb1) (d3 : sb2 ≠ lb1) (d4 : sb1 ≠ lb2) (d5 : sb2 ≠ lb2)
    (l1 : Log w lb1 (w.heap.size + 2) none 0 []) (l2 : Log w lb2 (w.heap.size + 2) none 0 []) (e0 : w.cell? ⟨sb1, 0, none⟩ = some (.int .u64 s0)) (e1 : w.cell? ⟨sb1, 1, none⟩ = some (.int .u64 s1)) (e2 : w.cell? ⟨sb2, 0, none⟩ = some (.int .u64 t0)) (e3 : w.cell? ⟨sb2, 1, none⟩ = some (.int .u64 t1)) :
    Calls Yba.prog 11 #[.func (.func 8) #[] #[.pointer (some ⟨lb1, 0, none⟩), .pointer (some ⟨sb1, 0, none⟩)], .func (.func 10) #[] #[.pointer (some ⟨lb2, 0, none⟩), .pointer (some ⟨sb2, 0, none⟩)]] w fun e w' => e = .returned (.pointer (some ⟨w.heap.size + 1, 0, none⟩)) ∧
      ∃ ka1 kc1 ka2 kc2, Rs w w.heap.size lb1 lb2 sb1 sb2 s0 s1 t0 t1 (.func (.func 8) #[] #[.pointer (some ⟨lb1, 0, none⟩), .pointer (some ⟨sb1, 0, none⟩)]) (.func (.func 10) #[] #[.pointer (some ⟨lb2, 0, none⟩), .pointer (some ⟨sb2, 0, none⟩)]) w' (tabK s0 s1 t0 t1 true 128) ka1 kc1 (seqI 128) ka2 kc2 (seqI 128) := by
  have hz47 := zero47
  have o1 : bits .or .u8 0 1 = 1 := by decide
  have o2 : bits .or .u8 0 2 = 2 := by decide
  have o3 : bits .or .u8 1 2 = 3 := by decide
  have fn := fneq_func
  go_enter Yba.func11, Yba.ntmps11
  go_wp2
  clear hz47
  go_loopw [12] (fun i wr => ∃ (k : Nat) (ka1 : Option Addr) (kc1 : Nat) (ka2 : Option Addr) (kc2 : Nat), k ≤ 128 ∧ i = .int .i32 k ∧ Rs w w.heap.size lb1 lb2 sb1 sb2 s0 s1 t0 t1 (.func (.func 8) #[] #[.pointer (some ⟨lb1, 0, none⟩), .pointer (some ⟨sb1, 0, none⟩)]) (.func (.func 10) #[] #[.pointer (some ⟨lb2, 0, none⟩), .pointer (some ⟨sb2, 0, none⟩)]) wr (tabK s0 s1 t0 t1 true k) ka1 kc1 (seqI k) ka2 kc2 (seqI k)) (fun i _ => 128 - (intOf i).toNat)
  case atStart =>
    refine ⟨0, none, 0, none, 0, by omega, rfl, ?_⟩
    exact Rs.start _ _ true n3 n4 l1 l2 e0 e1 e2 e3
  case round =>
    obtain ⟨k, ka1, kc1, ka2, kc2, hk, rfl, hR⟩ := hrel
    by_cases hlt : k < 128
    · have hk0 : (0 : Int) ≤ (k : Int) := by omega
      have hk1 : (k : Int) < 128 := by omega
      have hk2 : (k : Int) < 256 := by omega
      have hsz := hR.siz
      go_wp2_with fail
      refine (clos8 lb1 sb1 (w.heap.size + 2) s0 s1 k ka1 kc1 (seqI k) wr (by omega) (by omega) (by rw [seqI_len]; omega) hR.log1 hR.e0 hR.e1 (by omega) (by omega) d2 hR.siz).mono ?_
      rintro e w1 ⟨rfl, ka', kc', L, ho, hf⟩
      have R1 := hR.call1 n1 n2 n3 n4 d1 d2 d3 L ho hf
      rw [seqI_succ] at R1
      clear L ho hf hR
      have q3 : tabK s0 s1 t0 t1 true k k = 0 := by simp [tabK]
      by_cases hb : bitB s0 s1 k = true
      · have q0 := R1.k2
        have q1 := R1.tab k (by omega)
        have q2 := R1.fz k (by omega)
        rw [q3] at q1
        go_wp2
        go_region
        have R2 := (R1.store n1 n2 n3 n4 (k := k) (by omega) 1).drewN 1
        clear q0 q1 q2
        go_wp2_with fail
        refine (clos10 lb2 sb2 (w.heap.size + 2) t0 t1 k ka2 kc2 (seqI k) _ (by omega) (by omega) (by rw [seqI_len]; omega) R2.log2 R2.e2 R2.e3 (by omega) (by omega) d5 R2.siz).mono ?_
        rintro e w2 ⟨rfl, ka2', kc2', L, ho, hf⟩
        have R3 := R2.call2 n1 n2 n3 n4 d1 d4 d5 L ho hf
        rw [seqI_succ] at R3
        clear L ho hf R2
        have q0 := R3.k2
        have q1 := R3.tab k (by omega)
        have q2 := R3.fz k (by omega)
        simp only [if_true] at q1
        by_cases hb2 : bitB t0 t1 k = true
        · go_wp2
          go_region
          go_wp2
          go_roundw
          case rel => exact ⟨k + 1, ka', kc', ka2', kc2', by omega, by go_num, ((R3.store n1 n2 n3 n4 (by omega) 3).tabs (tabK_step (v := 3) (by simp [tabV, hb, hb2]) _ (fun j _ e => by simp [e]) (by simp))).drewN 1⟩
          case measure => simp [intOf]; omega
        · have hb2' : bitB t0 t1 k = false := by simpa using hb2
          clear hb2
          go_wp2
          go_roundw
          case rel => exact ⟨k + 1, ka', kc', ka2', kc2', by omega, by go_num, R3.tabs (tabK_step (v := 1) (by simp [tabV, hb, hb2']) _ (fun j _ e => by first | rfl | simp [e]) (by first | exact q3 | simp))⟩
          case measure => simp [intOf]; omega
      · have hb' : bitB s0 s1 k = false := by simpa using hb
        clear hb
        go_wp2_with fail
        refine (clos10 lb2 sb2 (w.heap.size + 2) t0 t1 k ka2 kc2 (seqI k) _ (by omega) (by omega) (by rw [seqI_len]; omega) R1.log2 R1.e2 R1.e3 (by omega) (by omega) d5 R1.siz).mono ?_
        rintro e w2 ⟨rfl, ka2', kc2', L, ho, hf⟩
        have R3 := R1.call2 n1 n2 n3 n4 d1 d4 d5 L ho hf
        rw [seqI_succ] at R3
        clear L ho hf R1
        have q0 := R3.k2
        have q1 := R3.tab k (by omega)
        have q2 := R3.fz k (by omega)
        rw [q3] at q1
        by_cases hb2 : bitB t0 t1 k = true
        · go_wp2
          go_region
          go_wp2
          go_roundw
          case rel => exact ⟨k + 1, ka', kc', ka2', kc2', by omega, by go_num, ((R3.store n1 n2 n3 n4 (by omega) 2).tabs (tabK_step (v := 2) (by simp [tabV, hb', hb2]) _ (fun j _ e => by simp [e]) (by simp))).drewN 1⟩
          case measure => simp [intOf]; omega
        · have hb2' : bitB t0 t1 k = false := by simpa using hb2
          clear hb2
          go_wp2
          go_roundw
          case rel => exact ⟨k + 1, ka', kc', ka2', kc2', by omega, by go_num, R3.tabs (tabK_step (v := 0) (by simp [tabV, hb', hb2']) _ (fun j _ e => by first | rfl | simp [e]) (by first | exact q3 | simp))⟩
          case measure => simp [intOf]; omega
    · have hk128 : k = 128 := by omega
      subst hk128
      go_wp2
      go_ret
      exact ⟨rfl, ka1, kc1, ka2, kc2, hR⟩
end Go.Proofs.Ybulkczfq
