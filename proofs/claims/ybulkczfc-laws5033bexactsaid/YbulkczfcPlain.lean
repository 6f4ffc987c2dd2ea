/-
  THE PLAIN LAW under 'LawS5033BExact': no Go in sight. Sums of words, told as integers.
-/
namespace Go.Proofs.Ybulkczfc

/-- the carry, and the word stored, round by round (addMulWord) -/
def Cy (t x : Nat → Int) (W : Int) : Nat → Int
  | 0 => 0
  | k + 1 => (x k * W + Cy t x W k + t k) / 18446744073709551616
def Rw (t x : Nat → Int) (W : Int) (k : Nat) : Int := (x k * W + Cy t x W k + t k) % 18446744073709551616

/-- the halves of the words of x -/
def xd (x : Nat → Int) (i : Nat) : Int := if i % 2 = 0 then x (i / 2) % 4294967296 else x (i / 2) / 4294967296
/-- the powers of 2^32 -/
def pw : Nat → Int
  | 0 => 1
  | k + 1 => 4294967296 * pw k
/-- what twelve half words stand for -/
def val (c : Nat → Int) : Int :=
  c 0 + 4294967296 * (c 1 + 4294967296 * (c 2 + 4294967296 * (c 3 + 4294967296 * (c 4 + 4294967296 * (c 5 + 4294967296 * (c 6 + 4294967296 * (c 7 + 4294967296 * (c 8 + 4294967296 * (c 9 + 4294967296 * (c 10 + 4294967296 * c 11))))))))))
/-- what six words stand for -/
def rv (r : Nat → Int) : Int :=
  r 0 + 18446744073709551616 * (r 1 + 18446744073709551616 * (r 2 + 18446744073709551616 * (r 3 + 18446744073709551616 * (r 4 + 18446744073709551616 * r 5))))
/-- the products gathered so far -/
def PS (x : Nat → Int) (wl wh : Int) : Nat → Int
  | 0 => 0
  | k + 1 => PS x wl wh k + (xd x k * wl + 4294967296 * (xd x k * wh)) * pw k
def TS (t : Nat → Int) : Nat → Int
  | 0 => 0
  | k + 1 => TS t k + xd t k * pw k

def upd3 (c : Nat → Int) (i : Nat) (u v z : Int) : Nat → Int := fun m => if m = i then u else if m = i + 1 then v else if m = i + 2 then z else c m
def upd1 (c : Nat → Int) (i : Nat) (u : Int) : Nat → Int := fun m => if m = i then u else c m

theorem xd_bd (x : Nat → Int) (h : ∀ j, 0 ≤ x j ∧ x j < 18446744073709551616) (i : Nat) : 0 ≤ xd x i ∧ xd x i < 4294967296 := by
  have := h (i / 2)
  unfold xd
  split <;> omega

theorem val_upd3 (c : Nat → Int) (i : Nat) (hi : i ≤ 9) (u v z : Int) : val (upd3 c i u v z) = val c + ((u - c i) + 4294967296 * (v - c (i + 1)) + 18446744073709551616 * (z - c (i + 2))) * pw i := by
  have hcase : i = 0 ∨ i = 1 ∨ i = 2 ∨ i = 3 ∨ i = 4 ∨ i = 5 ∨ i = 6 ∨ i = 7 ∨ i = 8 ∨ i = 9 := by omega
  rcases hcase with rfl | rfl | rfl | rfl | rfl | rfl | rfl | rfl | rfl | rfl <;> simp [val, upd3, pw] <;> omega
theorem val_upd1 (c : Nat → Int) (i : Nat) (hi : i ≤ 11) (u : Int) : val (upd1 c i u) = val c + (u - c i) * pw i := by
  have hcase : i = 0 ∨ i = 1 ∨ i = 2 ∨ i = 3 ∨ i = 4 ∨ i = 5 ∨ i = 6 ∨ i = 7 ∨ i = 8 ∨ i = 9 ∨ i = 10 ∨ i = 11 := by omega
  rcases hcase with rfl | rfl | rfl | rfl | rfl | rfl | rfl | rfl | rfl | rfl | rfl | rfl <;> simp [val, upd1, pw] <;> omega

/-- the first loop's relation -/
def Inv1 (x : Nat → Int) (wl wh : Int) (k : Nat) (c : Nat → Int) : Prop := (∀ m, 0 ≤ c m ∧ c m ≤ k * 17179869184) ∧ val c = PS x wl wh k
theorem Inv1.start (x : Nat → Int) (wl wh : Int) : Inv1 x wl wh 0 (fun _ => 0) := ⟨fun _ => ⟨Int.le_refl 0, by simp⟩, rfl⟩
theorem Inv1.step {x : Nat → Int} {wl wh : Int} {k : Nat} {c : Nat → Int} (h : Inv1 x wl wh k c) (hk : k ≤ 9) {a0 p0 a1 p1 : Int}
    (b0 : 0 ≤ a0) (b1 : a0 < 4294967296) (b2 : 0 ≤ p0) (b3 : p0 ≤ 18446744065119617025) (b4 : 0 ≤ a1) (b5 : a1 < 4294967296) (b6 : 0 ≤ p1) (b7 : p1 ≤ 18446744065119617025)
    (e0 : xd x k * wl = a0 + p0 / 4294967296 * 4294967296) (e1 : xd x k * wh = a1 + p1 / 4294967296 * 4294967296) :
    Inv1 x wl wh (k + 1) (upd3 c k (c k + a0) (c (k + 1) + p0 / 4294967296 + a1) (c (k + 2) + p1 / 4294967296)) := by
  refine ⟨fun m => ?_, ?_⟩
  · have h0 := h.1 m; have h1 := h.1 k; have h2 := h.1 (k + 1); have h3 := h.1 (k + 2)
    unfold upd3
    split
    · omega
    · split
      · omega
      · split <;> omega
  · rw [val_upd3 c k hk, PS, h.2, e0, e1]
    congr 2
    omega

/-- the second loop's relation -/
def Inv2 (t x : Nat → Int) (wl wh : Int) (k : Nat) (c : Nat → Int) : Prop := (∀ m, 0 ≤ c m ∧ c m ≤ 171798691840 + k * 4294967296) ∧ val c = PS x wl wh 10 + TS t k
theorem Inv2.start {t x : Nat → Int} {wl wh : Int} {c : Nat → Int} (h : Inv1 x wl wh 10 c) : Inv2 t x wl wh 0 c :=
  ⟨fun m => by have := h.1 m; omega, by rw [h.2]; simp [TS]⟩
theorem Inv2.step {t x : Nat → Int} {wl wh : Int} {k : Nat} {c : Nat → Int} (h : Inv2 t x wl wh k c) (hk : k ≤ 11) (b : 0 ≤ xd t k ∧ xd t k < 4294967296) :
    Inv2 t x wl wh (k + 1) (upd1 c k (c k + xd t k)) := by
  refine ⟨fun m => ?_, ?_⟩
  · have h0 := h.1 m; have h1 := h.1 k
    unfold upd1
    split <;> omega
  · rw [val_upd1 c k hk, TS, h.2, ← Int.add_assoc]
    congr 2
    omega

/-- what is left of twelve half words from the k-th on -/
def tail (c : Nat → Int) : Nat → Nat → Int
  | 0, _ => 0
  | f + 1, k => c k + 4294967296 * tail c f (k + 1)

/-- the third loop's relation -/
def Inv3 (c : Nat → Int) (k : Nat) (cy : Int) (r : Nat → Int) : Prop :=
  (0 ≤ cy ∧ cy ≤ 4294967296) ∧ (∀ j, 0 ≤ r j ∧ r j < 18446744073709551616) ∧ (∀ j, k ≤ 2 * j → r j = 0) ∧ (∀ j, k = 2 * j + 1 → r j < 4294967296) ∧
    rv r + (cy + tail c (12 - k) k) * pw k = val c
theorem Inv3.start (c : Nat → Int) : Inv3 c 0 0 (fun _ => 0) :=
  ⟨⟨by omega, by omega⟩, fun _ => ⟨by simp, by simp⟩, fun _ _ => rfl, fun _ _ => by simp, by simp [rv, tail, pw, val]⟩
theorem rv_upd (r : Nat → Int) (j : Nat) (hj : j ≤ 5) (u : Int) : rv (upd1 r j u) = rv r + (u - r j) * pw (2 * j) := by
  have hcase : j = 0 ∨ j = 1 ∨ j = 2 ∨ j = 3 ∨ j = 4 ∨ j = 5 := by omega
  rcases hcase with rfl | rfl | rfl | rfl | rfl | rfl <;> simp [rv, upd1, pw] <;> omega
theorem step_ring (a b d q p C : Int) (e : a + b = q * 4294967296 + d) : (b + (a + 4294967296 * C)) * p = d * p + (q + C) * (4294967296 * p) := by
  have e2 : b + (a + 4294967296 * C) = d + (q + C) * 4294967296 := by omega
  rw [e2, Int.add_mul, Int.mul_assoc]
/-- the k-th half word, k even -/
theorem Inv3.even {c : Nat → Int} {k : Nat} {cy : Int} {r : Nat → Int} (h : Inv3 c k cy r) (hc : 0 ≤ c k ∧ c k ≤ 300000000000) (j : Nat) (hk : k = 2 * j) (hj : j ≤ 5) :
    Inv3 c (k + 1) ((c k + cy) / 4294967296) (upd1 r j ((c k + cy) % 4294967296)) := by
  subst hk
  obtain ⟨h1, h2, h3, h4, h5⟩ := h
  have h0 : r j = 0 := h3 j (Nat.le_refl _)
  refine ⟨⟨by omega, by omega⟩, fun i => ?_, fun i hi => ?_, fun i hi => ?_, ?_⟩
  · have := h2 i
    unfold upd1; split <;> omega
  · unfold upd1
    rw [if_neg (by omega)]
    exact h3 i (by omega)
  · unfold upd1
    rw [if_pos (by omega)]
    omega
  · rw [rv_upd r j hj, h0, ← h5]
    have e12 : 12 - 2 * j = (12 - (2 * j + 1)) + 1 := by omega
    rw [e12, tail, pw, step_ring (c (2 * j)) cy _ _ (pw (2 * j)) (tail c (12 - (2 * j + 1)) (2 * j + 1)) (e := by rw [Int.mul_comm]; exact (Int.mul_ediv_add_emod (c (2 * j) + cy) 4294967296).symm)]
    simp only [Int.sub_zero]
    omega
/-- the k-th half word, k odd -/
theorem Inv3.odd {c : Nat → Int} {k : Nat} {cy : Int} {r : Nat → Int} (h : Inv3 c k cy r) (hc : 0 ≤ c k ∧ c k ≤ 300000000000) (j : Nat) (hk : k = 2 * j + 1) (hj : j ≤ 5) :
    Inv3 c (k + 1) ((c k + cy) / 4294967296) (upd1 r j (r j + (c k + cy) % 4294967296 * 4294967296)) := by
  subst hk
  obtain ⟨h1, h2, h3, h4, h5⟩ := h
  have h0 := h4 j rfl
  have h00 := h2 j
  refine ⟨⟨by omega, by omega⟩, fun i => ?_, fun i hi => ?_, fun i hi => ?_, ?_⟩
  · have := h2 i
    unfold upd1; split <;> omega
  · unfold upd1
    rw [if_neg (by omega)]
    exact h3 i (by omega)
  · omega
  · rw [rv_upd r j hj, ← h5]
    have e12 : 12 - (2 * j + 1) = (12 - (2 * j + 1 + 1)) + 1 := by omega
    rw [e12, tail, pw, step_ring (c (2 * j + 1)) cy _ _ (pw (2 * j + 1)) (tail c (12 - (2 * j + 1 + 1)) (2 * j + 1 + 1)) (e := by rw [Int.mul_comm]; exact (Int.mul_ediv_add_emod (c (2 * j + 1) + cy) 4294967296).symm)]
    have e1 : (r j + (c (2 * j + 1) + cy) % 4294967296 * 4294967296 - r j) * pw (2 * j) = (c (2 * j + 1) + cy) % 4294967296 * pw (2 * j + 1) := by
      rw [pw, ← Int.mul_assoc]; congr 1; omega
    rw [e1]
    omega

theorem mul_bd {a b : Int} (h1 : 0 ≤ a) (h2 : a < 18446744073709551616) (h3 : 0 ≤ b) (h4 : b < 18446744073709551616) : 0 ≤ a * b ∧ a * b ≤ 340282366920938463426481119284349108225 := by
  refine ⟨Int.mul_nonneg h1 h3, ?_⟩
  have : a * b ≤ 18446744073709551615 * 18446744073709551615 := Int.mul_le_mul (by omega) (by omega) h3 (by omega)
  omega
theorem Cy_bd (t x : Nat → Int) (W : Int) (k : Nat) (bx0 : ∀ j, 0 ≤ x j ∧ x j < 18446744073709551616) (bt0 : ∀ j, 0 ≤ t j ∧ t j < 18446744073709551616) (bW : 0 ≤ W ∧ W < 18446744073709551616) :
    0 ≤ Cy t x W k ∧ Cy t x W k < 18446744073709551616 := by
  induction k with
  | zero => exact ⟨Int.le_refl 0, by show (0 : Int) < _; decide⟩
  | succ k ih =>
    obtain ⟨a, b⟩ := mul_bd (bx0 k).1 (bx0 k).2 bW.1 bW.2
    have := bt0 k
    unfold Cy
    generalize x k * W = p at *
    omega

theorem digit {M a A b B : Int} (h0 : 0 ≤ a) (h1 : a < M) (h2 : 0 ≤ b) (h3 : b < M) (e : a + M * A = b + M * B) : a = b ∧ A = B := by
  have hM : 0 < M := by omega
  have e1 : (a + M * A) % M = a := by rw [Int.add_mul_emod_self_left, Int.emod_eq_of_lt h0 h1]
  have e2 : (b + M * B) % M = b := by rw [Int.add_mul_emod_self_left, Int.emod_eq_of_lt h2 h3]
  have e3 : a = b := by rw [← e1, ← e2, e]
  refine ⟨e3, ?_⟩
  have e4 : M * A = M * B := by omega
  exact Int.eq_of_mul_eq_mul_left (by omega) e4

/-- one word of x, its halves put together -/
theorem word_prod (x : Nat → Int) (j : Nat) (wl wh W : Int) (hW : W = wl + wh * 4294967296) :
    (xd x (2 * j) * wl + 4294967296 * (xd x (2 * j) * wh)) + 4294967296 * (xd x (2 * j + 1) * wl + 4294967296 * (xd x (2 * j + 1) * wh)) = x j * W := by
  have e0 : xd x (2 * j) = x j % 4294967296 := by unfold xd; rw [if_pos (by omega), show 2 * j / 2 = j by omega]
  have e1 : xd x (2 * j + 1) = x j / 4294967296 := by unfold xd; rw [if_neg (by omega), show (2 * j + 1) / 2 = j by omega]
  rw [e0, e1, hW]
  have ex : x j = x j % 4294967296 + 4294967296 * (x j / 4294967296) := (Int.emod_add_mul_ediv _ _).symm
  generalize hb : x j / 4294967296 = b at *
  generalize ha : x j % 4294967296 = a at *
  rw [ex]
  have f1 : (a + 4294967296 * b) * (wl + wh * 4294967296) = a * wl + a * wh * 4294967296 + (4294967296 * (b * wl) + 4294967296 * (b * wh * 4294967296)) := by
    rw [Int.add_mul, Int.mul_add, Int.mul_add (4294967296 * b), Int.mul_assoc 4294967296 b wl, Int.mul_assoc 4294967296 b, ← Int.mul_assoc a, ← Int.mul_assoc b]
  rw [f1]
  omega
theorem word_t (t : Nat → Int) (j : Nat) : xd t (2 * j) + 4294967296 * xd t (2 * j + 1) = t j := by
  unfold xd
  rw [if_pos (by omega), if_neg (by omega), show 2 * j / 2 = j by omega, show (2 * j + 1) / 2 = j by omega]
  omega

/-- THE PLAIN LAW: the words of the school method are addMulWord's. -/
theorem plain (t x : Nat → Int) (wl wh W : Int) (hW : W = wl + wh * 4294967296) (c r : Nat → Int) (cy : Int)
    (h2 : Inv2 t x wl wh 12 c) (h3 : Inv3 c 12 cy r) :
    r 0 = Rw t x W 0 ∧ r 1 = Rw t x W 1 ∧ r 2 = Rw t x W 2 ∧ r 3 = Rw t x W 3 ∧ r 4 = Rw t x W 4 ∧ r 5 = (t 5 + Cy t x W 5) % 18446744073709551616 := by
  obtain ⟨_, b, _, _, e⟩ := h3
  have e2 := h2.2
  have p0 := word_prod x 0 wl wh W hW
  have p1 := word_prod x 1 wl wh W hW
  have p2 := word_prod x 2 wl wh W hW
  have p3 := word_prod x 3 wl wh W hW
  have p4 := word_prod x 4 wl wh W hW
  have t0 := word_t t 0
  have t1 := word_t t 1
  have t2 := word_t t 2
  have t3 := word_t t 3
  have t4 := word_t t 4
  have t5 := word_t t 5
  have w0 : Rw t x W 0 + 18446744073709551616 * Cy t x W 1 = x 0 * W + Cy t x W 0 + t 0 := Int.emod_add_mul_ediv (x 0 * W + Cy t x W 0 + t 0) 18446744073709551616
  have c0 : Cy t x W 0 = 0 := rfl
  have w1 : Rw t x W 1 + 18446744073709551616 * Cy t x W 2 = x 1 * W + Cy t x W 1 + t 1 := Int.emod_add_mul_ediv (x 1 * W + Cy t x W 1 + t 1) 18446744073709551616
  have w2 : Rw t x W 2 + 18446744073709551616 * Cy t x W 3 = x 2 * W + Cy t x W 2 + t 2 := Int.emod_add_mul_ediv (x 2 * W + Cy t x W 2 + t 2) 18446744073709551616
  have w3 : Rw t x W 3 + 18446744073709551616 * Cy t x W 4 = x 3 * W + Cy t x W 3 + t 3 := Int.emod_add_mul_ediv (x 3 * W + Cy t x W 3 + t 3) 18446744073709551616
  have w4 : Rw t x W 4 + 18446744073709551616 * Cy t x W 5 = x 4 * W + Cy t x W 4 + t 4 := Int.emod_add_mul_ediv (x 4 * W + Cy t x W 4 + t 4) 18446744073709551616
  have w5 := Int.emod_add_mul_ediv (t 5 + Cy t x W 5) 18446744073709551616
  have m5 : 0 ≤ (t 5 + Cy t x W 5) % 18446744073709551616 ∧ (t 5 + Cy t x W 5) % 18446744073709551616 < 18446744073709551616 := by omega
  have m : ∀ k, 0 ≤ Rw t x W k ∧ Rw t x W k < 18446744073709551616 := fun k => ⟨by unfold Rw; omega, by unfold Rw; omega⟩
  have b0 := b 0; have b1 := b 1; have b2 := b 2; have b3 := b 3; have b4 := b 4; have b5 := b 5
  have m0 := m 0; have m1 := m 1; have m2 := m 2; have m3 := m 3; have m4 := m 4
  rw [e2] at e
  simp only [PS, TS, pw, rv, Nat.sub_self, tail] at e
  simp only [Nat.mul_zero, Nat.mul_one, Nat.zero_add, Nat.reduceMul, Nat.reduceAdd] at p0 p1 p2 p3 p4 t0 t1 t2 t3 t4 t5
  generalize xd x 0 * wl = u0 at *
  generalize xd x 0 * wh = v0 at *
  generalize xd x 1 * wl = u1 at *
  generalize xd x 1 * wh = v1 at *
  generalize xd x 2 * wl = u2 at *
  generalize xd x 2 * wh = v2 at *
  generalize xd x 3 * wl = u3 at *
  generalize xd x 3 * wh = v3 at *
  generalize xd x 4 * wl = u4 at *
  generalize xd x 4 * wh = v4 at *
  generalize xd x 5 * wl = u5 at *
  generalize xd x 5 * wh = v5 at *
  generalize xd x 6 * wl = u6 at *
  generalize xd x 6 * wh = v6 at *
  generalize xd x 7 * wl = u7 at *
  generalize xd x 7 * wh = v7 at *
  generalize xd x 8 * wl = u8 at *
  generalize xd x 8 * wh = v8 at *
  generalize xd x 9 * wl = u9 at *
  generalize xd x 9 * wh = v9 at *
  generalize x 0 * W = q0 at *
  generalize x 1 * W = q1 at *
  generalize x 2 * W = q2 at *
  generalize x 3 * W = q3 at *
  generalize x 4 * W = q4 at *
  generalize Rw t x W 0 = R0 at *
  generalize Rw t x W 1 = R1 at *
  generalize Rw t x W 2 = R2 at *
  generalize Rw t x W 3 = R3 at *
  generalize Rw t x W 4 = R4 at *
  generalize (t 5 + Cy t x W 5) % 18446744073709551616 = R5 at *
  generalize (t 5 + Cy t x W 5) / 18446744073709551616 = R6 at *
  have key : r 0 + 18446744073709551616 * (r 1 + 18446744073709551616 * (r 2 + 18446744073709551616 * (r 3 + 18446744073709551616 * (r 4 + 18446744073709551616 * (r 5 + 18446744073709551616 * cy))))) =
    R0 + 18446744073709551616 * (R1 + 18446744073709551616 * (R2 + 18446744073709551616 * (R3 + 18446744073709551616 * (R4 + 18446744073709551616 * (R5 + 18446744073709551616 * R6))))) := by omega
  obtain ⟨f0, key⟩ := digit b0.1 b0.2 m0.1 m0.2 key
  obtain ⟨f1, key⟩ := digit b1.1 b1.2 m1.1 m1.2 key
  obtain ⟨f2, key⟩ := digit b2.1 b2.2 m2.1 m2.2 key
  obtain ⟨f3, key⟩ := digit b3.1 b3.2 m3.1 m3.2 key
  obtain ⟨f4, key⟩ := digit b4.1 b4.2 m4.1 m4.2 key
  obtain ⟨f5, key⟩ := digit b5.1 b5.2 m5.1 m5.2 key
  exact ⟨f0, f1, f2, f3, f4, f5⟩
end Go.Proofs.Ybulkczfc
