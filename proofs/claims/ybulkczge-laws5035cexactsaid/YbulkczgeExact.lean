/-
  THE WALK OF LawS5035CExact.
-/
import Derived.Test.YbulkczgeNew
namespace Go.Proofs.Ybulkczge
open Go.RowKit Go.Lib
attribute [local go_sem ↓] Go.wp_at_zero Go.wp_at_succ
attribute [local go_sem] setCell_drewN alloc_drewN
namespace Ex
theorem n33 (w : World) : (binOp .neq 33 .nilIface .nilIface).run Yba.prog w = .ok (.bool false) w := by kernel_rfl
theorem n33i (t : TypeId) (v : Value) (w : World) : (binOp .neq 33 (.iface t v) .nilIface).run Yba.prog w = .ok (.bool true) w := by kernel_rfl
theorem isEmpty_false {a : ByteArray} (h : a ≠ ⟨#[]⟩) : a.toList.isEmpty = false := by
  rw [ByteArray.toList_eq]
  obtain ⟨⟨l⟩⟩ := a
  cases l with
  | nil => exact absurd rfl h
  | cons x r => rfl
/-- both copies and the key -/
structure Three (w w2 : World) (x : Addr) (g n : Nat) (z : Nat → Int) : Prop where
  cp : ∀ k, k < n → w2.cell? ⟨g, k, none⟩ = some (.int .u8 (z k))
  key : ∀ k, k < n → ∃ b off, x = ⟨b, off, none⟩ ∧ b < w2.heap.size ∧ w2.cell? ⟨b, off + k, none⟩ = some (.int .u8 (z k))
  bel : Below w.heap.size w w2
theorem Three.mk' {w w1 w2 : World} {x : Addr} {n : Nat} {z : Nat → Int} {g c1 : Nat} (HX : ∀ i, i < n → w.cell? (x.add i) = some (.int .u8 (z i))) (C1 : Copy w w1 n z g c1) (B2 : Below w1.heap.size w1 w2) : Three w w2 x g n z := by
  have hb : Below w.heap.size w w2 := C1.bel.trans (B2.mono C1.bel.size)
  refine ⟨fun k hk => (B2.cell (p := ⟨g, k, none⟩) C1.lt).trans (C1.cs k hk), fun k hk => ?_, hb⟩
  have hkey := HX k hk
  obtain ⟨b, off, spot⟩ := x
  have hspot : spot = none := by
    have := World.cell?_spot (HX 0 (by omega))
    simpa [Addr.add] using this
  subst hspot
  have hbk : b < w.heap.size := by
    have := lt_of_cell hkey
    rwa [WideShapes.add_plain] at this
  rw [WideShapes.add_plain] at hkey
  exact ⟨b, off, rfl, Nat.lt_of_lt_of_le hbk hb.size, (hb.cell (p := ⟨b, off + k, none⟩) hbk).trans hkey⟩
set_option maxHeartbeats 1000000 in
set_option maxRecDepth 100000 in
theorem exactErr (x : Addr) (len cap : Nat) (z : Nat → Int) (pw : ByteArray) (w : World) (hlen : len ≤ 4096) (hx : ∀ i, i < len → w.cell? (x.add i) = some (.int .u8 (z i))) (hpw : pw.toList.isEmpty = false) :
    Calls Yba.prog 3 #[.slice (some x) len cap, .string pw] w fun e w' => e = .returned (.bool true) ∧ Below w.heap.size w w' := by
  have h4096 : decide ((4096 : Int) < len) = false := by simp; omega
  have h33 := n33i
  have q22 : ∀ (w : World) (a : Option Addr) (n c n' c' : Nat), (binOp .eql 22 (.slice a n c) (.slice none n' c')).run Yba.prog w = .ok (.bool a.isNone) w := fun w a n c n' c' => Lib.run_eql_slice_nil w _ _ a n c n' c' Yba.underlying22
  have q22' : ∀ (w : World) (a : Option Addr) (n c n' c' : Nat), (binOp .neq 22 (.slice a n c) (.slice none n' c')).run Yba.prog w = .ok (.bool (!a.isNone)) w := fun w a n c n' c' => run_neq_slice_nil_any w 22 5 a n c n' c' Yba.underlying22
  have HX : Hid (∀ i, i < len → w.cell? (x.add i) = some (.int .u8 (z i))) := hx
  clear hx
  go_enter Yba.func3, Yba.ntmps3
  go_wp2_with fail
  refine (clone5_at x len cap z _ hlen HX).mono ?_
  rintro e w1 ⟨g, c1, rfl, C1⟩
  clear h4096
  go_wp2_with fail
  refine (nd_err _ len c1 pw hpw _).mono ?_
  rintro e w2 ⟨t, v, rfl, B2⟩
  simp only [dec]
  have T := Three.mk' HX C1 B2
  have hsz := B2.size
  have hg : g < w2.heap.size := Nat.lt_of_lt_of_le C1.lt hsz
  clear HX C1 B2 hsz
  go_wp2_with fail
  go_loopw [8] (fun i wr => ∃ k m : Nat, k ≤ len ∧ i = .int .i64 k ∧ wr = (w2.alloc (.cells #[.slice none 0 0, .string ⟨#[]⟩, .bool false, .nilIface, .nilFunc, .pointer none, .slice none 0 0, .nilIface, .slice none 0 0, .bool false, .string ⟨#[]⟩, .bool false] 31)).drewN m) (fun i _ => len - (intOf i).toNat)
  case atStart => exact ⟨0, 0, by omega, rfl, rfl⟩
  case round =>
    obtain ⟨k, m, hk, rfl, rfl⟩ := hrel
    by_cases hlt : k < len
    · obtain ⟨b, off, rfl, hb, a0⟩ := T.key k hlt
      have b0 := T.cp k hlt
      go_wp2_with fail
      go_quiet (fail)
      go_wp2
      go_roundw
      case rel => exact ⟨k + 1, _, by omega, by go_num, rfl⟩
      case measure => simp [intOf]; omega
    · have hkl : k = len := by omega
      subst hkl
      go_wp2_with fail
      refine (rest (.slice none 0 0) (.string ⟨#[]⟩) _).mono ?_
      rintro e w3 ⟨rfl, B3⟩
      go_wp2
      go_ret
      refine ⟨rfl, ?_⟩
      have hs := T.bel.size
      exact (below_drewN (T.bel.alloc T.bel.size _) m).trans (B3.mono (by show w.heap.size ≤ (w2.alloc _).heap.size; rw [World.size_alloc]; omega))
set_option maxHeartbeats 1000000 in
set_option maxRecDepth 100000 in
theorem exactKey (x : Addr) (len cap : Nat) (z : Nat → Int) (w : World) (hlen : len ≤ 4096) (hx : ∀ i, i < len → w.cell? (x.add i) = some (.int .u8 (z i))) :
    Calls Yba.prog 3 #[.slice (some x) len cap, .string ⟨#[]⟩] w fun e w' => e = .returned (.bool true) ∧ Below w.heap.size w w' := by
  have h4096 : decide ((4096 : Int) < len) = false := by simp; omega
  have h33 := n33
  have q22 : ∀ (w : World) (a : Option Addr) (n c n' c' : Nat), (binOp .eql 22 (.slice a n c) (.slice none n' c')).run Yba.prog w = .ok (.bool a.isNone) w := fun w a n c n' c' => Lib.run_eql_slice_nil w _ _ a n c n' c' Yba.underlying22
  have q22' : ∀ (w : World) (a : Option Addr) (n c n' c' : Nat), (binOp .neq 22 (.slice a n c) (.slice none n' c')).run Yba.prog w = .ok (.bool (!a.isNone)) w := fun w a n c n' c' => run_neq_slice_nil_any w 22 5 a n c n' c' Yba.underlying22
  have HX : Hid (∀ i, i < len → w.cell? (x.add i) = some (.int .u8 (z i))) := hx
  clear hx
  go_enter Yba.func3, Yba.ntmps3
  go_wp2_with fail
  refine (clone5_at x len cap z _ hlen HX).mono ?_
  rintro e w1 ⟨g, c1, rfl, C1⟩
  clear h4096
  go_wp2_with fail
  refine (nd_key g len c1 z _ hlen C1.cs).mono ?_
  rintro e w2 ⟨g2, c2, rfl, C2⟩
  simp only [dec]
  have T := Three.mk' HX C1 C2.bel
  have hsz := C2.bel.size
  have hg : g < w2.heap.size := Nat.lt_of_lt_of_le C1.lt hsz
  have hg2 : g2 < w2.heap.size := C2.lt
  have D2 := C2.cs
  have HD : Hid (∀ k, k < len → w2.cell? ⟨g2, k, none⟩ = some (.int .u8 (z k))) := D2
  clear HX C1 C2 hsz D2
  go_wp2_with fail
  go_loopw [8] (fun i wr => ∃ k m : Nat, k ≤ len ∧ i = .int .i64 k ∧ wr = (w2.alloc (.cells #[.slice (some ⟨g2, 0, none⟩) len c2, .string ⟨#[]⟩, .bool false, .nilIface, .nilFunc, .pointer none, .slice none 0 0, .nilIface, .slice none 0 0, .bool false, .string ⟨#[]⟩, .bool false] 31)).drewN m) (fun i _ => len - (intOf i).toNat)
  case atStart => exact ⟨0, 0, by omega, rfl, rfl⟩
  case round =>
    obtain ⟨k, m, hk, rfl, rfl⟩ := hrel
    by_cases hlt : k < len
    · obtain ⟨b, off, rfl, hb, a0⟩ := T.key k hlt
      have b0 := T.cp k hlt
      go_wp2_with fail
      go_quiet (fail)
      go_wp2
      go_roundw
      case rel => exact ⟨k + 1, _, by omega, by go_num, rfl⟩
      case measure => simp [intOf]; omega
    · have hkl : k = len := by omega
      subst hkl
      go_wp2_with fail
      go_loopw [9] (fun i wr => ∃ q m : Nat, q ≤ k ∧ i = .int .i64 q ∧ wr = (w2.alloc (.cells #[.slice (some ⟨g2, 0, none⟩) k c2, .string ⟨#[]⟩, .bool false, .nilIface, .nilFunc, .pointer none, .slice none 0 0, .nilIface, .slice none 0 0, .bool false, .string ⟨#[]⟩, .bool false] 31)).drewN m) (fun i _ => k - (intOf i).toNat)
      case atStart => exact ⟨0, m, by omega, rfl, rfl⟩
      case round =>
        clear hlt hk
        obtain ⟨q, m', hq, rfl, rfl⟩ := hrel
        by_cases hlt : q < k
        · obtain ⟨b, off, rfl, hb, a0⟩ := T.key q hlt
          have b0 := HD q hlt
          go_wp2_with fail
          go_quiet (fail)
          go_wp2
          go_roundw
          case rel => exact ⟨q + 1, _, by omega, by go_num, rfl⟩
          case measure => simp [intOf]; omega
        · have hkl : q = k := by omega
          subst hkl
          go_wp2_with fail
          refine (rest (.slice (some ⟨g2, 0, none⟩) q c2) (.string ⟨#[]⟩) _).mono ?_
          rintro e w3 ⟨rfl, B3⟩
          go_wp2
          go_ret
          refine ⟨rfl, ?_⟩
          have hs := T.bel.size
          exact (below_drewN (T.bel.alloc T.bel.size _) m').trans (B3.mono (by show w.heap.size ≤ (w2.alloc _).heap.size; rw [World.size_alloc]; omega))
set_option maxHeartbeats 1000000 in
set_option maxRecDepth 100000 in
theorem exactNil (pw : ByteArray) (w : World) : Calls Yba.prog 3 #[.slice none 0 0, .string pw] w fun e w' => e = .returned (.bool true) ∧ Below w.heap.size w w' := by
  have h33 := n33
  have q22 : ∀ (w : World) (a : Option Addr) (n c n' c' : Nat), (binOp .eql 22 (.slice a n c) (.slice none n' c')).run Yba.prog w = .ok (.bool a.isNone) w := fun w a n c n' c' => Lib.run_eql_slice_nil w _ _ a n c n' c' Yba.underlying22
  have q22' : ∀ (w : World) (a : Option Addr) (n c n' c' : Nat), (binOp .neq 22 (.slice a n c) (.slice none n' c')).run Yba.prog w = .ok (.bool (!a.isNone)) w := fun w a n c n' c' => run_neq_slice_nil_any w 22 5 a n c n' c' Yba.underlying22
  go_enter Yba.func3, Yba.ntmps3
  go_wp2_with fail
  refine (clone5_nil _).mono ?_
  rintro e w1 ⟨rfl, rfl⟩
  go_wp2_with fail
  refine (nd_nil _ _).mono ?_
  rintro e w2 ⟨rfl, B2⟩
  simp only [dec]
  go_wp2_with fail
  refine wp_loop_rounds 1 ?_
  rw [rounds_succ]
  go_wp2_with fail
  refine wp_loop_rounds 1 ?_
  rw [rounds_succ]
  go_wp2_with fail
  refine (rest (.slice none 0 0) (.string pw) _).mono ?_
  rintro e w3 ⟨rfl, B3⟩
  go_wp2
  go_ret
  refine ⟨rfl, ?_⟩
  have hs := B2.size
  exact (B2.alloc B2.size _).trans (B3.mono (by rw [World.size_alloc]; omega))
theorem exactMany (a : Option Addr) (len cap : Nat) (pw : ByteArray) (w : World) (h : 4096 < len) : Calls Yba.prog 3 #[.slice a len cap, .string pw] w fun e w' => e = .returned (.bool true) ∧ Below w.heap.size w w' := by
  have h' : (4096 : Int) < len := by omega
  go_enter Yba.func3, Yba.ntmps3
  go_wp2
  go_ret
  exact ⟨rfl, Below.refl _ _⟩
end Ex
end Go.Proofs.Ybulkczge
