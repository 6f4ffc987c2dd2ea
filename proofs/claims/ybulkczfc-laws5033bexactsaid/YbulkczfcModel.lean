/-
  THE WALK OF hashweave.zzs5033bmodel: the school method on halves of 32 bits. The rounds are told apart by their number (the loops' bounds are constants).
-/
import Derived.Test.YbulkczfcAdd
import Derived.LoopN
import Derived.BigRegion
namespace Go.Proofs.Ybulkczfc
open Go.RowKit Go.Shelf
attribute [local go_sem ↓] Go.wp_at_zero Go.wp_at_succ
theorem alloc_drewN (w : World) (n : Nat) (o : Obj) : (w.drewN n).alloc o = (w.alloc o).drewN n := rfl
attribute [local go_sem] setCell_drewN alloc_drewN

/-- the world of the model's loops: the two boxes, the result, the sums, the halves of w -/
def accW (w : World) (t x : Nat → Int) (wl wh : Int) (c : Nat → Int) : World :=
  ((((w.alloc (.cells #[.int .u64 (t 0), .int .u64 (t 1), .int .u64 (t 2), .int .u64 (t 3), .int .u64 (t 4), .int .u64 (t 5)] 23)).alloc
    (.cells #[.int .u64 (x 0), .int .u64 (x 1), .int .u64 (x 2), .int .u64 (x 3), .int .u64 (x 4)] 24)).alloc
    (.cells #[.int .u64 0, .int .u64 0, .int .u64 0, .int .u64 0, .int .u64 0, .int .u64 0] 23)).alloc
    (.cells #[.int .u64 (c 0), .int .u64 (c 1), .int .u64 (c 2), .int .u64 (c 3), .int .u64 (c 4), .int .u64 (c 5), .int .u64 (c 6), .int .u64 (c 7), .int .u64 (c 8), .int .u64 (c 9), .int .u64 (c 10), .int .u64 (c 11)] 35)).alloc
    (.cells #[.int .u64 wl, .int .u64 wh] 37)
/-- and the words of r behind it -/
def rW (w : World) (t x : Nat → Int) (wl wh : Int) (c r : Nat → Int) : World :=
  (accW w t x wl wh c).alloc (.cells #[.int .u64 (r 0), .int .u64 (r 1), .int .u64 (r 2), .int .u64 (r 3), .int .u64 (r 4), .int .u64 (r 5)] 23)

theorem maskI (a : Int) (h0 : 0 ≤ a) (h1 : a < 18446744073709551616) : bits .and .u64 a 4294967295 = a % 4294967296 := by
  obtain ⟨a, rfl⟩ := Int.eq_ofNat_of_zero_le h0
  rw [Mul64.maskN a (by omega)]; omega
theorem maskE (x : Nat → Int) (h : ∀ j, 0 ≤ x j ∧ x j < 18446744073709551616) (q i : Nat) (hi : i = 2 * q) : bits .and .u64 (x q) 4294967295 = xd x i := by
  rw [maskI _ (h q).1 (h q).2, hi]; unfold xd; rw [if_pos (by omega), show 2 * q / 2 = q by omega]
theorem maskO (x : Nat → Int) (h : ∀ j, 0 ≤ x j ∧ x j < 18446744073709551616) (q i : Nat) (hi : i = 2 * q + 1) : bits .and .u64 (x q / 4294967296) 4294967295 = xd x i := by
  have := h q
  rw [maskI _ (by omega) (by omega), hi]; unfold xd; rw [if_neg (by omega), show (2 * q + 1) / 2 = q by omega]; omega

theorem or_add (a b : Nat) (ha : a < 4294967296) : a ||| (b * 4294967296) = a + b * 4294967296 := by
  have h := Nat.two_pow_add_eq_or_of_lt (i := 32) ha b
  rw [Nat.or_comm, Nat.mul_comm b 4294967296]
  exact h.symm.trans (Nat.add_comm _ _)
theorem orE (a d : Int) (ha : a = 0) (h0 : 0 ≤ d) (h1 : d < 18446744073709551616) : bits .or .u64 a d = d := by
  subst ha
  obtain ⟨d, rfl⟩ := Int.eq_ofNat_of_zero_le h0
  have := bits_or_u64_nat 0 d (by omega) (by omega)
  rw [Nat.zero_or] at this
  exact this
theorem orO (a d : Int) (a0 : 0 ≤ a) (a1 : a < 4294967296) (h0 : 0 ≤ d) (h1 : d < 4294967296) : bits .or .u64 a (d * 4294967296) = a + d * 4294967296 := by
  obtain ⟨d, rfl⟩ := Int.eq_ofNat_of_zero_le h0
  obtain ⟨a, rfl⟩ := Int.eq_ofNat_of_zero_le a0
  have := bits_or_u64_nat a (d * 4294967296) (by omega) (by omega)
  rw [or_add a d (by omega)] at this
  have e1 : ((d * 4294967296 : Nat) : Int) = (d : Int) * 4294967296 := by omega
  have e2 : ((a + d * 4294967296 : Nat) : Int) = (a : Int) + (d : Int) * 4294967296 := by omega
  rw [e1, e2] at this
  exact this

theorem facts (d e : Int) (h0 : 0 ≤ d) (h1 : d < 4294967296) (k0 : 0 ≤ e) (k1 : e < 4294967296) :
    ∃ p a, d * e = p ∧ bits .and .u64 p 4294967295 = a ∧ 0 ≤ a ∧ a < 4294967296 ∧ 0 ≤ p ∧ p ≤ 18446744065119617025 ∧ Hid (d * e = a + p / 4294967296 * 4294967296) := by
  have a1 : 0 ≤ d * e := Int.mul_nonneg h0 k0
  have a2 : d * e ≤ 4294967295 * 4294967295 := Int.mul_le_mul (by omega) (by omega) k0 (by omega)
  refine ⟨d * e, d * e % 4294967296, rfl, maskI _ a1 (by omega), by omega, by omega, a1, by omega, ?_⟩
  show d * e = _
  omega

set_option maxHeartbeats 4000000 in
theorem model (t x : Nat → Int) (W : Int) (w : World)
   (bx0 : ∀ j, 0 ≤ x j ∧ x j < 18446744073709551616) (bt0 : ∀ j, 0 ≤ t j ∧ t j < 18446744073709551616) (bW : 0 ≤ W ∧ W < 18446744073709551616) :
    Calls Yba.prog 6 #[.agg #[.int .u64 (t 0), .int .u64 (t 1), .int .u64 (t 2), .int .u64 (t 3), .int .u64 (t 4), .int .u64 (t 5)], .agg #[.int .u64 (x 0), .int .u64 (x 1), .int .u64 (x 2), .int .u64 (x 3), .int .u64 (x 4)], .int .u64 W] w fun e w' =>
      e = .returned (.agg #[.int .u64 (Rw t x W 0), .int .u64 (Rw t x W 1), .int .u64 (Rw t x W 2), .int .u64 (Rw t x W 3), .int .u64 (Rw t x W 4), .int .u64 ((t 5 + Cy t x W 5) % 18446744073709551616)]) ∧
      ∃ n c1 c2 c3 c4 c5 c6, w' = ((((((w.alloc (.cells c1 23)).alloc (.cells c2 24)).alloc (.cells c3 23)).alloc (.cells c4 35)).alloc (.cells c5 37)).alloc (.cells c6 23)).drewN n := by
  have hwl := maskI W bW.1 bW.2
  obtain ⟨wl, hwl'⟩ : ∃ wl, W % 4294967296 = wl := ⟨_, rfl⟩
  obtain ⟨wh, hwh⟩ : ∃ wh, W / 4294967296 = wh := ⟨_, rfl⟩
  have l0 : 0 ≤ wl := by omega
  have l1 : wl < 4294967296 := by omega
  have l2 : 0 ≤ wh := by omega
  have l3 : wh < 4294967296 := by omega
  rw [hwl'] at hwl
  have HW : Hid (W = wl + wh * 4294967296) := by show W = _; omega
  clear hwl'
  go_enter Yba.func6, Yba.ntmps6
  go_wp2
  clear hwl hwh
  go_loopw [9] (fun i wr => ∃ (k : Nat) (c : Nat → Int), k ≤ 10 ∧ i = .int .i64 k ∧ Inv1 x wl wh k c ∧ wr = accW w t x wl wh c) (fun i _ => 10 - (intOf i).toNat)
  case atStart => exact ⟨0, fun _ => 0, by omega, rfl, Inv1.start x wl wh, rfl⟩
  case round =>
    obtain ⟨k, c, hk, rfl, hc, rfl⟩ := hrel
    have hcase : k = 0 ∨ k = 1 ∨ k = 2 ∨ k = 3 ∨ k = 4 ∨ k = 5 ∨ k = 6 ∨ k = 7 ∨ k = 8 ∨ k = 9 ∨ k = 10 := by omega
    rcases hcase with rfl | rfl | rfl | rfl | rfl | rfl | rfl | rfl | rfl | rfl | rfl
    · have g0 := hc.1 0
      have g1 := hc.1 1
      have g2 := hc.1 2
      have db := xd_bd x bx0 0
      have xb := bx0 0
      have hxm := maskE x bx0 0 0 rfl
      obtain ⟨d, hd⟩ : ∃ d, xd x 0 = d := ⟨_, rfl⟩
      rw [hd] at hxm db
      have HD : Hid (xd x 0 = d) := hd
      clear hd
      obtain ⟨p0, a0, hp0, ha0, a00, a01, p00, p01, H0⟩ := facts d wl db.1 db.2 l0 l1
      obtain ⟨p1, a1, hp1, ha1, a10, a11, p10, p11, H1⟩ := facts d wh db.1 db.2 l2 l3
      clear bx0 bt0 bW
      unfold accW
      go_wp2
      refine wp_loop_rounds 3 ?_
      rw [rounds_succ]; go_wp2
      rw [rounds_succ]; go_wp2
      rw [rounds_succ]; go_wp2
      go_roundw
      case rel => exact ⟨1, upd3 c 0 (c 0 + a0) (c 1 + p0 / 4294967296 + a1) (c 2 + p1 / 4294967296), by omega, rfl, Inv1.step hc (by omega) a00 a01 p00 p01 a10 a11 p10 p11 (by rw [HD]; exact H0) (by rw [HD]; exact H1), rfl⟩
      case measure => simp [intOf]
    · have g0 := hc.1 1
      have g1 := hc.1 2
      have g2 := hc.1 3
      have db := xd_bd x bx0 1
      have xb := bx0 0
      have hxm := maskO x bx0 0 1 rfl
      obtain ⟨d, hd⟩ : ∃ d, xd x 1 = d := ⟨_, rfl⟩
      rw [hd] at hxm db
      have HD : Hid (xd x 1 = d) := hd
      clear hd
      obtain ⟨p0, a0, hp0, ha0, a00, a01, p00, p01, H0⟩ := facts d wl db.1 db.2 l0 l1
      obtain ⟨p1, a1, hp1, ha1, a10, a11, p10, p11, H1⟩ := facts d wh db.1 db.2 l2 l3
      clear bx0 bt0 bW
      unfold accW
      go_wp2
      refine wp_loop_rounds 3 ?_
      rw [rounds_succ]; go_wp2
      rw [rounds_succ]; go_wp2
      rw [rounds_succ]; go_wp2
      go_roundw
      case rel => exact ⟨2, upd3 c 1 (c 1 + a0) (c 2 + p0 / 4294967296 + a1) (c 3 + p1 / 4294967296), by omega, rfl, Inv1.step hc (by omega) a00 a01 p00 p01 a10 a11 p10 p11 (by rw [HD]; exact H0) (by rw [HD]; exact H1), rfl⟩
      case measure => simp [intOf]
    · have g0 := hc.1 2
      have g1 := hc.1 3
      have g2 := hc.1 4
      have db := xd_bd x bx0 2
      have xb := bx0 1
      have hxm := maskE x bx0 1 2 rfl
      obtain ⟨d, hd⟩ : ∃ d, xd x 2 = d := ⟨_, rfl⟩
      rw [hd] at hxm db
      have HD : Hid (xd x 2 = d) := hd
      clear hd
      obtain ⟨p0, a0, hp0, ha0, a00, a01, p00, p01, H0⟩ := facts d wl db.1 db.2 l0 l1
      obtain ⟨p1, a1, hp1, ha1, a10, a11, p10, p11, H1⟩ := facts d wh db.1 db.2 l2 l3
      clear bx0 bt0 bW
      unfold accW
      go_wp2
      refine wp_loop_rounds 3 ?_
      rw [rounds_succ]; go_wp2
      rw [rounds_succ]; go_wp2
      rw [rounds_succ]; go_wp2
      go_roundw
      case rel => exact ⟨3, upd3 c 2 (c 2 + a0) (c 3 + p0 / 4294967296 + a1) (c 4 + p1 / 4294967296), by omega, rfl, Inv1.step hc (by omega) a00 a01 p00 p01 a10 a11 p10 p11 (by rw [HD]; exact H0) (by rw [HD]; exact H1), rfl⟩
      case measure => simp [intOf]
    · have g0 := hc.1 3
      have g1 := hc.1 4
      have g2 := hc.1 5
      have db := xd_bd x bx0 3
      have xb := bx0 1
      have hxm := maskO x bx0 1 3 rfl
      obtain ⟨d, hd⟩ : ∃ d, xd x 3 = d := ⟨_, rfl⟩
      rw [hd] at hxm db
      have HD : Hid (xd x 3 = d) := hd
      clear hd
      obtain ⟨p0, a0, hp0, ha0, a00, a01, p00, p01, H0⟩ := facts d wl db.1 db.2 l0 l1
      obtain ⟨p1, a1, hp1, ha1, a10, a11, p10, p11, H1⟩ := facts d wh db.1 db.2 l2 l3
      clear bx0 bt0 bW
      unfold accW
      go_wp2
      refine wp_loop_rounds 3 ?_
      rw [rounds_succ]; go_wp2
      rw [rounds_succ]; go_wp2
      rw [rounds_succ]; go_wp2
      go_roundw
      case rel => exact ⟨4, upd3 c 3 (c 3 + a0) (c 4 + p0 / 4294967296 + a1) (c 5 + p1 / 4294967296), by omega, rfl, Inv1.step hc (by omega) a00 a01 p00 p01 a10 a11 p10 p11 (by rw [HD]; exact H0) (by rw [HD]; exact H1), rfl⟩
      case measure => simp [intOf]
    · have g0 := hc.1 4
      have g1 := hc.1 5
      have g2 := hc.1 6
      have db := xd_bd x bx0 4
      have xb := bx0 2
      have hxm := maskE x bx0 2 4 rfl
      obtain ⟨d, hd⟩ : ∃ d, xd x 4 = d := ⟨_, rfl⟩
      rw [hd] at hxm db
      have HD : Hid (xd x 4 = d) := hd
      clear hd
      obtain ⟨p0, a0, hp0, ha0, a00, a01, p00, p01, H0⟩ := facts d wl db.1 db.2 l0 l1
      obtain ⟨p1, a1, hp1, ha1, a10, a11, p10, p11, H1⟩ := facts d wh db.1 db.2 l2 l3
      clear bx0 bt0 bW
      unfold accW
      go_wp2
      refine wp_loop_rounds 3 ?_
      rw [rounds_succ]; go_wp2
      rw [rounds_succ]; go_wp2
      rw [rounds_succ]; go_wp2
      go_roundw
      case rel => exact ⟨5, upd3 c 4 (c 4 + a0) (c 5 + p0 / 4294967296 + a1) (c 6 + p1 / 4294967296), by omega, rfl, Inv1.step hc (by omega) a00 a01 p00 p01 a10 a11 p10 p11 (by rw [HD]; exact H0) (by rw [HD]; exact H1), rfl⟩
      case measure => simp [intOf]
    · have g0 := hc.1 5
      have g1 := hc.1 6
      have g2 := hc.1 7
      have db := xd_bd x bx0 5
      have xb := bx0 2
      have hxm := maskO x bx0 2 5 rfl
      obtain ⟨d, hd⟩ : ∃ d, xd x 5 = d := ⟨_, rfl⟩
      rw [hd] at hxm db
      have HD : Hid (xd x 5 = d) := hd
      clear hd
      obtain ⟨p0, a0, hp0, ha0, a00, a01, p00, p01, H0⟩ := facts d wl db.1 db.2 l0 l1
      obtain ⟨p1, a1, hp1, ha1, a10, a11, p10, p11, H1⟩ := facts d wh db.1 db.2 l2 l3
      clear bx0 bt0 bW
      unfold accW
      go_wp2
      refine wp_loop_rounds 3 ?_
      rw [rounds_succ]; go_wp2
      rw [rounds_succ]; go_wp2
      rw [rounds_succ]; go_wp2
      go_roundw
      case rel => exact ⟨6, upd3 c 5 (c 5 + a0) (c 6 + p0 / 4294967296 + a1) (c 7 + p1 / 4294967296), by omega, rfl, Inv1.step hc (by omega) a00 a01 p00 p01 a10 a11 p10 p11 (by rw [HD]; exact H0) (by rw [HD]; exact H1), rfl⟩
      case measure => simp [intOf]
    · have g0 := hc.1 6
      have g1 := hc.1 7
      have g2 := hc.1 8
      have db := xd_bd x bx0 6
      have xb := bx0 3
      have hxm := maskE x bx0 3 6 rfl
      obtain ⟨d, hd⟩ : ∃ d, xd x 6 = d := ⟨_, rfl⟩
      rw [hd] at hxm db
      have HD : Hid (xd x 6 = d) := hd
      clear hd
      obtain ⟨p0, a0, hp0, ha0, a00, a01, p00, p01, H0⟩ := facts d wl db.1 db.2 l0 l1
      obtain ⟨p1, a1, hp1, ha1, a10, a11, p10, p11, H1⟩ := facts d wh db.1 db.2 l2 l3
      clear bx0 bt0 bW
      unfold accW
      go_wp2
      refine wp_loop_rounds 3 ?_
      rw [rounds_succ]; go_wp2
      rw [rounds_succ]; go_wp2
      rw [rounds_succ]; go_wp2
      go_roundw
      case rel => exact ⟨7, upd3 c 6 (c 6 + a0) (c 7 + p0 / 4294967296 + a1) (c 8 + p1 / 4294967296), by omega, rfl, Inv1.step hc (by omega) a00 a01 p00 p01 a10 a11 p10 p11 (by rw [HD]; exact H0) (by rw [HD]; exact H1), rfl⟩
      case measure => simp [intOf]
    · have g0 := hc.1 7
      have g1 := hc.1 8
      have g2 := hc.1 9
      have db := xd_bd x bx0 7
      have xb := bx0 3
      have hxm := maskO x bx0 3 7 rfl
      obtain ⟨d, hd⟩ : ∃ d, xd x 7 = d := ⟨_, rfl⟩
      rw [hd] at hxm db
      have HD : Hid (xd x 7 = d) := hd
      clear hd
      obtain ⟨p0, a0, hp0, ha0, a00, a01, p00, p01, H0⟩ := facts d wl db.1 db.2 l0 l1
      obtain ⟨p1, a1, hp1, ha1, a10, a11, p10, p11, H1⟩ := facts d wh db.1 db.2 l2 l3
      clear bx0 bt0 bW
      unfold accW
      go_wp2
      refine wp_loop_rounds 3 ?_
      rw [rounds_succ]; go_wp2
      rw [rounds_succ]; go_wp2
      rw [rounds_succ]; go_wp2
      go_roundw
      case rel => exact ⟨8, upd3 c 7 (c 7 + a0) (c 8 + p0 / 4294967296 + a1) (c 9 + p1 / 4294967296), by omega, rfl, Inv1.step hc (by omega) a00 a01 p00 p01 a10 a11 p10 p11 (by rw [HD]; exact H0) (by rw [HD]; exact H1), rfl⟩
      case measure => simp [intOf]
    · have g0 := hc.1 8
      have g1 := hc.1 9
      have g2 := hc.1 10
      have db := xd_bd x bx0 8
      have xb := bx0 4
      have hxm := maskE x bx0 4 8 rfl
      obtain ⟨d, hd⟩ : ∃ d, xd x 8 = d := ⟨_, rfl⟩
      rw [hd] at hxm db
      have HD : Hid (xd x 8 = d) := hd
      clear hd
      obtain ⟨p0, a0, hp0, ha0, a00, a01, p00, p01, H0⟩ := facts d wl db.1 db.2 l0 l1
      obtain ⟨p1, a1, hp1, ha1, a10, a11, p10, p11, H1⟩ := facts d wh db.1 db.2 l2 l3
      clear bx0 bt0 bW
      unfold accW
      go_wp2
      refine wp_loop_rounds 3 ?_
      rw [rounds_succ]; go_wp2
      rw [rounds_succ]; go_wp2
      rw [rounds_succ]; go_wp2
      go_roundw
      case rel => exact ⟨9, upd3 c 8 (c 8 + a0) (c 9 + p0 / 4294967296 + a1) (c 10 + p1 / 4294967296), by omega, rfl, Inv1.step hc (by omega) a00 a01 p00 p01 a10 a11 p10 p11 (by rw [HD]; exact H0) (by rw [HD]; exact H1), rfl⟩
      case measure => simp [intOf]
    · have g0 := hc.1 9
      have g1 := hc.1 10
      have g2 := hc.1 11
      have db := xd_bd x bx0 9
      have xb := bx0 4
      have hxm := maskO x bx0 4 9 rfl
      obtain ⟨d, hd⟩ : ∃ d, xd x 9 = d := ⟨_, rfl⟩
      rw [hd] at hxm db
      have HD : Hid (xd x 9 = d) := hd
      clear hd
      obtain ⟨p0, a0, hp0, ha0, a00, a01, p00, p01, H0⟩ := facts d wl db.1 db.2 l0 l1
      obtain ⟨p1, a1, hp1, ha1, a10, a11, p10, p11, H1⟩ := facts d wh db.1 db.2 l2 l3
      clear bx0 bt0 bW
      unfold accW
      go_wp2
      refine wp_loop_rounds 3 ?_
      rw [rounds_succ]; go_wp2
      rw [rounds_succ]; go_wp2
      rw [rounds_succ]; go_wp2
      go_roundw
      case rel => exact ⟨10, upd3 c 9 (c 9 + a0) (c 10 + p0 / 4294967296 + a1) (c 11 + p1 / 4294967296), by omega, rfl, Inv1.step hc (by omega) a00 a01 p00 p01 a10 a11 p10 p11 (by rw [HD]; exact H0) (by rw [HD]; exact H1), rfl⟩
      case measure => simp [intOf]
    · have h2 : Inv2 t x wl wh 0 c := Inv2.start hc
      clear hc
      go_wp2
      go_loopw [13] (fun i wr => ∃ (k n : Nat) (c : Nat → Int), k ≤ 12 ∧ i = .int .i64 k ∧ Inv2 t x wl wh k c ∧ wr = (accW w t x wl wh c).drewN n) (fun i _ => 12 - (intOf i).toNat)
      case atStart => exact ⟨0, 0, c, by omega, rfl, h2, rfl⟩
      case round =>
        clear h2
        obtain ⟨k, n, c, hk, rfl, hc, rfl⟩ := hrel
        have hcase : k = 0 ∨ k = 1 ∨ k = 2 ∨ k = 3 ∨ k = 4 ∨ k = 5 ∨ k = 6 ∨ k = 7 ∨ k = 8 ∨ k = 9 ∨ k = 10 ∨ k = 11 ∨ k = 12 := by omega
        rcases hcase with rfl | rfl | rfl | rfl | rfl | rfl | rfl | rfl | rfl | rfl | rfl | rfl | rfl
        · have g0 := hc.1 0
          have db := xd_bd t bt0 0
          have xb := bt0 0
          have hxm := maskE t bt0 0 0 rfl
          have R := Inv2.step hc (by omega) db
          obtain ⟨d, hd⟩ : ∃ d, xd t 0 = d := ⟨_, rfl⟩
          rw [hd] at hxm db R
          clear hd hc bx0 bt0 bW
          unfold accW
          go_wp2
          go_region
          go_wp2
          go_roundw
          case rel => exact ⟨1, n + 1, upd1 c 0 (c 0 + d), by omega, rfl, R, rfl⟩
          case measure => simp [intOf]
        · have g0 := hc.1 1
          have db := xd_bd t bt0 1
          have xb := bt0 0
          have hxm := maskO t bt0 0 1 rfl
          have R := Inv2.step hc (by omega) db
          obtain ⟨d, hd⟩ : ∃ d, xd t 1 = d := ⟨_, rfl⟩
          rw [hd] at hxm db R
          clear hd hc bx0 bt0 bW
          unfold accW
          go_wp2
          go_region
          go_wp2
          go_roundw
          case rel => exact ⟨2, n + 1, upd1 c 1 (c 1 + d), by omega, rfl, R, rfl⟩
          case measure => simp [intOf]
        · have g0 := hc.1 2
          have db := xd_bd t bt0 2
          have xb := bt0 1
          have hxm := maskE t bt0 1 2 rfl
          have R := Inv2.step hc (by omega) db
          obtain ⟨d, hd⟩ : ∃ d, xd t 2 = d := ⟨_, rfl⟩
          rw [hd] at hxm db R
          clear hd hc bx0 bt0 bW
          unfold accW
          go_wp2
          go_region
          go_wp2
          go_roundw
          case rel => exact ⟨3, n + 1, upd1 c 2 (c 2 + d), by omega, rfl, R, rfl⟩
          case measure => simp [intOf]
        · have g0 := hc.1 3
          have db := xd_bd t bt0 3
          have xb := bt0 1
          have hxm := maskO t bt0 1 3 rfl
          have R := Inv2.step hc (by omega) db
          obtain ⟨d, hd⟩ : ∃ d, xd t 3 = d := ⟨_, rfl⟩
          rw [hd] at hxm db R
          clear hd hc bx0 bt0 bW
          unfold accW
          go_wp2
          go_region
          go_wp2
          go_roundw
          case rel => exact ⟨4, n + 1, upd1 c 3 (c 3 + d), by omega, rfl, R, rfl⟩
          case measure => simp [intOf]
        · have g0 := hc.1 4
          have db := xd_bd t bt0 4
          have xb := bt0 2
          have hxm := maskE t bt0 2 4 rfl
          have R := Inv2.step hc (by omega) db
          obtain ⟨d, hd⟩ : ∃ d, xd t 4 = d := ⟨_, rfl⟩
          rw [hd] at hxm db R
          clear hd hc bx0 bt0 bW
          unfold accW
          go_wp2
          go_region
          go_wp2
          go_roundw
          case rel => exact ⟨5, n + 1, upd1 c 4 (c 4 + d), by omega, rfl, R, rfl⟩
          case measure => simp [intOf]
        · have g0 := hc.1 5
          have db := xd_bd t bt0 5
          have xb := bt0 2
          have hxm := maskO t bt0 2 5 rfl
          have R := Inv2.step hc (by omega) db
          obtain ⟨d, hd⟩ : ∃ d, xd t 5 = d := ⟨_, rfl⟩
          rw [hd] at hxm db R
          clear hd hc bx0 bt0 bW
          unfold accW
          go_wp2
          go_region
          go_wp2
          go_roundw
          case rel => exact ⟨6, n + 1, upd1 c 5 (c 5 + d), by omega, rfl, R, rfl⟩
          case measure => simp [intOf]
        · have g0 := hc.1 6
          have db := xd_bd t bt0 6
          have xb := bt0 3
          have hxm := maskE t bt0 3 6 rfl
          have R := Inv2.step hc (by omega) db
          obtain ⟨d, hd⟩ : ∃ d, xd t 6 = d := ⟨_, rfl⟩
          rw [hd] at hxm db R
          clear hd hc bx0 bt0 bW
          unfold accW
          go_wp2
          go_region
          go_wp2
          go_roundw
          case rel => exact ⟨7, n + 1, upd1 c 6 (c 6 + d), by omega, rfl, R, rfl⟩
          case measure => simp [intOf]
        · have g0 := hc.1 7
          have db := xd_bd t bt0 7
          have xb := bt0 3
          have hxm := maskO t bt0 3 7 rfl
          have R := Inv2.step hc (by omega) db
          obtain ⟨d, hd⟩ : ∃ d, xd t 7 = d := ⟨_, rfl⟩
          rw [hd] at hxm db R
          clear hd hc bx0 bt0 bW
          unfold accW
          go_wp2
          go_region
          go_wp2
          go_roundw
          case rel => exact ⟨8, n + 1, upd1 c 7 (c 7 + d), by omega, rfl, R, rfl⟩
          case measure => simp [intOf]
        · have g0 := hc.1 8
          have db := xd_bd t bt0 8
          have xb := bt0 4
          have hxm := maskE t bt0 4 8 rfl
          have R := Inv2.step hc (by omega) db
          obtain ⟨d, hd⟩ : ∃ d, xd t 8 = d := ⟨_, rfl⟩
          rw [hd] at hxm db R
          clear hd hc bx0 bt0 bW
          unfold accW
          go_wp2
          go_region
          go_wp2
          go_roundw
          case rel => exact ⟨9, n + 1, upd1 c 8 (c 8 + d), by omega, rfl, R, rfl⟩
          case measure => simp [intOf]
        · have g0 := hc.1 9
          have db := xd_bd t bt0 9
          have xb := bt0 4
          have hxm := maskO t bt0 4 9 rfl
          have R := Inv2.step hc (by omega) db
          obtain ⟨d, hd⟩ : ∃ d, xd t 9 = d := ⟨_, rfl⟩
          rw [hd] at hxm db R
          clear hd hc bx0 bt0 bW
          unfold accW
          go_wp2
          go_region
          go_wp2
          go_roundw
          case rel => exact ⟨10, n + 1, upd1 c 9 (c 9 + d), by omega, rfl, R, rfl⟩
          case measure => simp [intOf]
        · have g0 := hc.1 10
          have db := xd_bd t bt0 10
          have xb := bt0 5
          have hxm := maskE t bt0 5 10 rfl
          have R := Inv2.step hc (by omega) db
          obtain ⟨d, hd⟩ : ∃ d, xd t 10 = d := ⟨_, rfl⟩
          rw [hd] at hxm db R
          clear hd hc bx0 bt0 bW
          unfold accW
          go_wp2
          go_region
          go_wp2
          go_roundw
          case rel => exact ⟨11, n + 1, upd1 c 10 (c 10 + d), by omega, rfl, R, rfl⟩
          case measure => simp [intOf]
        · have g0 := hc.1 11
          have db := xd_bd t bt0 11
          have xb := bt0 5
          have hxm := maskO t bt0 5 11 rfl
          have R := Inv2.step hc (by omega) db
          obtain ⟨d, hd⟩ : ∃ d, xd t 11 = d := ⟨_, rfl⟩
          rw [hd] at hxm db R
          clear hd hc bx0 bt0 bW
          unfold accW
          go_wp2
          go_region
          go_wp2
          go_roundw
          case rel => exact ⟨12, n + 1, upd1 c 11 (c 11 + d), by omega, rfl, R, rfl⟩
          case measure => simp [intOf]
        · go_wp2
          unfold accW
          go_wp2
          go_loopw [14, 16] (fun v i wr => ∃ (k : Nat) (cy : Int) (r : Nat → Int), k ≤ 12 ∧ i = .int .i64 k ∧ v = .int .u64 cy ∧ Inv3 c k cy r ∧ wr = (rW w t x wl wh c r).drewN n) (fun _ i _ => 12 - (intOf i).toNat)
          case atStart => exact ⟨0, 0, fun _ => 0, by omega, rfl, rfl, Inv3.start c, rfl⟩
          case round =>
            obtain ⟨k, cy, r, hk, rfl, rfl, hi, rfl⟩ := hrel
            have hcase : k = 0 ∨ k = 1 ∨ k = 2 ∨ k = 3 ∨ k = 4 ∨ k = 5 ∨ k = 6 ∨ k = 7 ∨ k = 8 ∨ k = 9 ∨ k = 10 ∨ k = 11 ∨ k = 12 := by omega
            rcases hcase with rfl | rfl | rfl | rfl | rfl | rfl | rfl | rfl | rfl | rfl | rfl | rfl | rfl
            · have g0 := hc.1 0
              have g1 := hi.1
              have R := Inv3.even hi (by omega) 0 rfl (by omega)
              have hm := maskI (c 0 + cy) (by omega) (by omega)
              have ho := orE (r 0) ((c 0 + cy) % 4294967296) (hi.2.2.1 0 (by omega)) (by omega) (by omega)
              clear hi
              unfold rW accW
              go_wp2
              go_roundw
              case rel => exact ⟨1, (c 0 + cy) / 4294967296, upd1 r 0 ((c 0 + cy) % 4294967296), by omega, rfl, rfl, R, rfl⟩
              case measure => simp [intOf]
            · have g0 := hc.1 1
              have g1 := hi.1
              have R := Inv3.odd hi (by omega) 0 rfl (by omega)
              have hm := maskI (c 1 + cy) (by omega) (by omega)
              have ho := orO (r 0) ((c 1 + cy) % 4294967296) (hi.2.1 0).1 (hi.2.2.2.1 0 (by omega)) (by omega) (by omega)
              clear hi
              unfold rW accW
              go_wp2
              go_roundw
              case rel => exact ⟨2, (c 1 + cy) / 4294967296, upd1 r 0 (r 0 + (c 1 + cy) % 4294967296 * 4294967296), by omega, rfl, rfl, R, rfl⟩
              case measure => simp [intOf]
            · have g0 := hc.1 2
              have g1 := hi.1
              have R := Inv3.even hi (by omega) 1 rfl (by omega)
              have hm := maskI (c 2 + cy) (by omega) (by omega)
              have ho := orE (r 1) ((c 2 + cy) % 4294967296) (hi.2.2.1 1 (by omega)) (by omega) (by omega)
              clear hi
              unfold rW accW
              go_wp2
              go_roundw
              case rel => exact ⟨3, (c 2 + cy) / 4294967296, upd1 r 1 ((c 2 + cy) % 4294967296), by omega, rfl, rfl, R, rfl⟩
              case measure => simp [intOf]
            · have g0 := hc.1 3
              have g1 := hi.1
              have R := Inv3.odd hi (by omega) 1 rfl (by omega)
              have hm := maskI (c 3 + cy) (by omega) (by omega)
              have ho := orO (r 1) ((c 3 + cy) % 4294967296) (hi.2.1 1).1 (hi.2.2.2.1 1 (by omega)) (by omega) (by omega)
              clear hi
              unfold rW accW
              go_wp2
              go_roundw
              case rel => exact ⟨4, (c 3 + cy) / 4294967296, upd1 r 1 (r 1 + (c 3 + cy) % 4294967296 * 4294967296), by omega, rfl, rfl, R, rfl⟩
              case measure => simp [intOf]
            · have g0 := hc.1 4
              have g1 := hi.1
              have R := Inv3.even hi (by omega) 2 rfl (by omega)
              have hm := maskI (c 4 + cy) (by omega) (by omega)
              have ho := orE (r 2) ((c 4 + cy) % 4294967296) (hi.2.2.1 2 (by omega)) (by omega) (by omega)
              clear hi
              unfold rW accW
              go_wp2
              go_roundw
              case rel => exact ⟨5, (c 4 + cy) / 4294967296, upd1 r 2 ((c 4 + cy) % 4294967296), by omega, rfl, rfl, R, rfl⟩
              case measure => simp [intOf]
            · have g0 := hc.1 5
              have g1 := hi.1
              have R := Inv3.odd hi (by omega) 2 rfl (by omega)
              have hm := maskI (c 5 + cy) (by omega) (by omega)
              have ho := orO (r 2) ((c 5 + cy) % 4294967296) (hi.2.1 2).1 (hi.2.2.2.1 2 (by omega)) (by omega) (by omega)
              clear hi
              unfold rW accW
              go_wp2
              go_roundw
              case rel => exact ⟨6, (c 5 + cy) / 4294967296, upd1 r 2 (r 2 + (c 5 + cy) % 4294967296 * 4294967296), by omega, rfl, rfl, R, rfl⟩
              case measure => simp [intOf]
            · have g0 := hc.1 6
              have g1 := hi.1
              have R := Inv3.even hi (by omega) 3 rfl (by omega)
              have hm := maskI (c 6 + cy) (by omega) (by omega)
              have ho := orE (r 3) ((c 6 + cy) % 4294967296) (hi.2.2.1 3 (by omega)) (by omega) (by omega)
              clear hi
              unfold rW accW
              go_wp2
              go_roundw
              case rel => exact ⟨7, (c 6 + cy) / 4294967296, upd1 r 3 ((c 6 + cy) % 4294967296), by omega, rfl, rfl, R, rfl⟩
              case measure => simp [intOf]
            · have g0 := hc.1 7
              have g1 := hi.1
              have R := Inv3.odd hi (by omega) 3 rfl (by omega)
              have hm := maskI (c 7 + cy) (by omega) (by omega)
              have ho := orO (r 3) ((c 7 + cy) % 4294967296) (hi.2.1 3).1 (hi.2.2.2.1 3 (by omega)) (by omega) (by omega)
              clear hi
              unfold rW accW
              go_wp2
              go_roundw
              case rel => exact ⟨8, (c 7 + cy) / 4294967296, upd1 r 3 (r 3 + (c 7 + cy) % 4294967296 * 4294967296), by omega, rfl, rfl, R, rfl⟩
              case measure => simp [intOf]
            · have g0 := hc.1 8
              have g1 := hi.1
              have R := Inv3.even hi (by omega) 4 rfl (by omega)
              have hm := maskI (c 8 + cy) (by omega) (by omega)
              have ho := orE (r 4) ((c 8 + cy) % 4294967296) (hi.2.2.1 4 (by omega)) (by omega) (by omega)
              clear hi
              unfold rW accW
              go_wp2
              go_roundw
              case rel => exact ⟨9, (c 8 + cy) / 4294967296, upd1 r 4 ((c 8 + cy) % 4294967296), by omega, rfl, rfl, R, rfl⟩
              case measure => simp [intOf]
            · have g0 := hc.1 9
              have g1 := hi.1
              have R := Inv3.odd hi (by omega) 4 rfl (by omega)
              have hm := maskI (c 9 + cy) (by omega) (by omega)
              have ho := orO (r 4) ((c 9 + cy) % 4294967296) (hi.2.1 4).1 (hi.2.2.2.1 4 (by omega)) (by omega) (by omega)
              clear hi
              unfold rW accW
              go_wp2
              go_roundw
              case rel => exact ⟨10, (c 9 + cy) / 4294967296, upd1 r 4 (r 4 + (c 9 + cy) % 4294967296 * 4294967296), by omega, rfl, rfl, R, rfl⟩
              case measure => simp [intOf]
            · have g0 := hc.1 10
              have g1 := hi.1
              have R := Inv3.even hi (by omega) 5 rfl (by omega)
              have hm := maskI (c 10 + cy) (by omega) (by omega)
              have ho := orE (r 5) ((c 10 + cy) % 4294967296) (hi.2.2.1 5 (by omega)) (by omega) (by omega)
              clear hi
              unfold rW accW
              go_wp2
              go_roundw
              case rel => exact ⟨11, (c 10 + cy) / 4294967296, upd1 r 5 ((c 10 + cy) % 4294967296), by omega, rfl, rfl, R, rfl⟩
              case measure => simp [intOf]
            · have g0 := hc.1 11
              have g1 := hi.1
              have R := Inv3.odd hi (by omega) 5 rfl (by omega)
              have hm := maskI (c 11 + cy) (by omega) (by omega)
              have ho := orO (r 5) ((c 11 + cy) % 4294967296) (hi.2.1 5).1 (hi.2.2.2.1 5 (by omega)) (by omega) (by omega)
              clear hi
              unfold rW accW
              go_wp2
              go_roundw
              case rel => exact ⟨12, (c 11 + cy) / 4294967296, upd1 r 5 (r 5 + (c 11 + cy) % 4294967296 * 4294967296), by omega, rfl, rfl, R, rfl⟩
              case measure => simp [intOf]
            · obtain ⟨q0, q1, q2, q3, q4, q5⟩ := plain t x wl wh W HW c r cy hc hi
              unfold rW accW
              go_wp2
              simp [bodyPost, results, Yba.results6, go_sem]
              exact ⟨n, _, _, _, _, _, _, rfl⟩
end Go.Proofs.Ybulkczfc
