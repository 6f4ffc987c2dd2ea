/-
  THE WALK OF LawS5034ACached.
-/
import Derived.Test.YbulkczfqDoorParts
namespace Go.Proofs.YbulkczfqDoor
open Go.RowKit
attribute [local go_sem ↓] Go.wp_at_zero Go.wp_at_succ
attribute [local go_sem] setCell_drewN alloc_drewN
set_option maxHeartbeats 1000000 in
set_option maxRecDepth 100000 in
theorem walk (ad : Option Addr) (len cap : Nat) (z : Nat → Int) (at_ : Int) (closed : Bool) (sel iv : Int) (w : World) (hlen : len ≤ 1024)
    (had : 0 < len → ∃ b off, ad = some ⟨b, off, none⟩ ∧ b < w.heap.size ∧ ∀ k, k < len → w.cell? ⟨b, off + k, none⟩ = some (.int .i64 (z k))) (s0 : 0 ≤ sel ∧ sel < 256) (i0 : 0 ≤ iv ∧ iv < 65536) :
    Calls Ybad.prog 3 #[.slice ad len cap, .int .i64 at_, .bool closed, .int .u8 sel, .int .u16 iv] w fun e w' => e = .returned (.bool true) ∧ Below w.heap.size w w' := by
  have hmm := @run_makeMap Ybad.prog
  have h1024 : decide ((1024 : Int) < len) = false := by simp; omega
  obtain ⟨i45, hi, hz0, hz1, hz2⟩ := info_parts info45
  go_enter Ybad.func3, Ybad.ntmps3
  go_wp2_with (first
    | (at_make; refine wpList_make_full _ rfl _ _ 43 rfl (w.heap.size + 1) 45 i45 _ 3 Ybad.underlying43 hi hz0 hz1 .i64 .i64 _ _ len rfl rfl rfl rfl (by rw [hz2]; omega) (by unfold maxLen; omega) (by simp) ?_; intro w1 hown1 hgrow1)
    | go_in)
  clear h1024
  rw [World.size_alloc] at hown1
  have F0 : Fill w w1 len 0 z := Fill.start hown1 hgrow1
  clear hown1 hgrow1
  go_loopw [13] (fun i wr => ∃ k : Nat, k ≤ len ∧ i = .int .i64 k ∧ Fill w wr len k z) (fun i _ => len - (intOf i).toNat)
  case atStart => exact ⟨0, by omega, rfl, F0⟩
  case round =>
    clear F0
    obtain ⟨k, hk, rfl, F⟩ := hrel
    by_cases hlt : k < len
    · obtain ⟨b, off, rfl, hb, hc⟩ := had (by omega)
      have hz : wr.cell? ⟨b, off + k, none⟩ = some (.int .i64 (z k)) := (F.bel.cell (p := ⟨b, off + k, none⟩) hb).trans (hc k hlt)
      obtain ⟨v0, h0⟩ := F.ex (k * 3) (by omega)
      obtain ⟨v1, h1⟩ := F.ex (k * 3 + 1) (by omega)
      obtain ⟨v2, h2⟩ := F.ex (k * 3 + 1 + 1) (by omega)
      have f0 := F.fz (k * 3)
      have f1 := F.fz (k * 3 + 1)
      have f2 := F.fz (k * 3 + 1 + 1)
      go_wp2
      go_roundw
      case rel => exact ⟨k + 1, by omega, by go_num, F.step hlt⟩
      case measure => simp [intOf]; omega
    · have hkl : k = len := by omega
      subst hkl
      obtain ⟨PC, hpc⟩ := F.pc
      have hsiz := F.siz
      have r1 := fun (L R O S Kv : Obj) (v : Value) => upd1 wr L R O S Kv w.heap.size at_ closed v
      have r2 := fun (L R O S Kv : Obj) (v u : Value) => upd2 wr L R O S Kv w.heap.size at_ closed v u
      have r3 := fun (L R O S Kv : Obj) (v u : Value) (P2 : Array Value) => upd3 wr L R O S Kv w.heap.size at_ closed v u PC P2 hpc
      simp only [M] at r1 r2 r3
      obtain ⟨jn, hj⟩ : ∃ jn : Nat, iv % ((k : Int) + 3) = (jn : Int) := ⟨(iv % ((k : Int) + 3)).toNat, (Int.toNat_of_nonneg (Int.emod_nonneg _ (by omega))).symm⟩
      have hb1 : w.heap.size + 1 < wr.heap.size := by omega
      have HPC : Hid (wr.heap[w.heap.size]? = some (.cells PC 42)) := hpc
      clear hpc
      go_wp2_with fail
      go_region
      clear r1
      go_wp2_with fail
      clear r2 r3
      by_cases hjl : jn < k
      · obtain ⟨b, off, rfl, hb, hc⟩ := had (by omega)
        obtain ⟨c0, c1, c2⟩ := F.cs jn hjl
        refine (classEnd_hit (wr.heap.size + 1 + 1 + 1 + 1) w.heap.size wr.heap.size (w.heap.size + 1) (wr.heap.size + 1 + 1 + 1) at_ closed k jn (z jn) (2 * jn) (jn + 1) _ 0 3 _ hjl ?_ ?_ ?_ ?_ ?_ ?_ (mapAt _ _ _ _ _ _ _ _)).mono ?_
        · simp [go_sem]
        · simp [go_sem]
        · simp [go_sem]
        · exact (oldAt _ _ _ _ _ _ _ _ _ hb1).trans c0
        · exact (oldAt _ _ _ _ _ _ _ _ _ hb1).trans c1
        · exact (oldAt _ _ _ _ _ _ _ _ _ hb1).trans c2
        rintro e w5 ⟨rfl, hB⟩
        obtain ⟨f1, f2, f3, f4, f5, f6, f7, f8, f9, f10, f11⟩ := behind F rfl hB
        have a0 : w5.cell? ⟨b, off + jn, none⟩ = some (.int .i64 (z jn)) := (f11 b (off + jn) hb).trans (hc jn hjl)
        have hlook := fun (o : Obj) (m : Nat) => lookBehind o m f10
        have hlen3 := fun (o : Obj) (m : Nat) (ty : TypeId) => lenBehind o m ty f10
        have p62 := pneq62
        have p47 := pneq47
        have HB : Hid (Below w.heap.size w w5) := f9
        have g1 : b < w5.heap.size := Nat.lt_of_lt_of_le hb f9.size
        have g2 : wr.heap.size < w5.heap.size := by omega
        have g3 : wr.heap.size + 1 + 1 + 1 + 1 < w5.heap.size := by omega
        have g4 : wr.heap.size + 1 + 1 + 1 + 1 + 1 < w5.heap.size := by omega
        clear hB F hc had f9 f10 f11 c0 c1 c2
        go_wp2_with fail
        go_quiet (fail)
        go_wp2_with fail
        go_quiet (fail)
        go_wp2
        go_ret
        exact ⟨rfl, below_drewN (below_drewN (Below.alloc HB (Below.size HB) _) _) _⟩
      · refine (classEnd_miss (wr.heap.size + 1 + 1 + 1 + 1) w.heap.size wr.heap.size (w.heap.size + 1) (wr.heap.size + 1 + 1 + 1) at_ closed k jn (sel % 3) _ 0 3 _ (by omega) ?_ ?_ ?_ ?_ ?_ (mapAt _ _ _ _ _ _ _ _)).mono ?_
        · simp [go_sem]
        · simp [go_sem]
        · simp [go_sem]
        · simp [go_sem]
        · simp [go_sem]
        rintro e w5 ⟨rfl, hB⟩
        obtain ⟨f1, f2, f3, f4, f5, f6, f7, f8, f9, f10, f11⟩ := behind F rfl hB
        have hlook := fun (o : Obj) (m : Nat) => lookBehind o m f10
        have hlen3 := fun (o : Obj) (m : Nat) (ty : TypeId) => lenBehind o m ty f10
        have p47 := pneq47
        have HB : Hid (Below w.heap.size w w5) := f9
        have g2 : wr.heap.size < w5.heap.size := by omega
        have g3 : wr.heap.size + 1 + 1 + 1 + 1 < w5.heap.size := by omega
        have g4 : wr.heap.size + 1 + 1 + 1 + 1 + 1 < w5.heap.size := by omega
        clear hB F had f9 f10 f11
        go_wp2_with fail
        go_quiet (fail)
        go_wp2
        go_ret
        exact ⟨rfl, below_drewN (Below.alloc HB (Below.size HB) _) _⟩
end Go.Proofs.YbulkczfqDoor
