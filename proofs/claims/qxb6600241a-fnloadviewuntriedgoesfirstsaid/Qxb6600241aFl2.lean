/-
  PLAIN LAWS ON IEEE DOUBLES THAT ARE NOT NEGATIVE: what a word reads as; order, product, sum and difference by rungs. No Go in sight.
-/
import Derived.Test.Qxb6600241aFl
namespace Go.Proofs.Qxb6600241a.Fl
open Ieee

def rung (x : Nat) : Nat := x % 9223372036854775808
def sgn (x : Nat) : Bool := x / 9223372036854775808 % 2 == 1

/-- not negative (a negative zero counts as zero), no NaN; infinity among them. -/
structure NN (x : Nat) : Prop where
  le : rung x ≤ 9218868437227405312
  sign : sgn x = false ∨ rung x = 0

theorem read_eq (x : Nat) : double.read x =
    if rung x < 4503599627370496 then .number (sgn x) (rung x) (-1074)
    else if rung x < 9218868437227405312 then .number (sgn x) (4503599627370496 + rung x % 4503599627370496) (-1074 + (rung x / 4503599627370496 - 1 : Nat))
    else if rung x = 9218868437227405312 then .infinity (sgn x) else .nan (sgn x) (rung x - 9218868437227405312) := by
  unfold Format.read
  rw [sign_double, binade_double, inf_double, least_double]
  rfl

theorem read_inf {x : Nat} (h : rung x = 9218868437227405312) : double.read x = .infinity (sgn x) := by
  rw [read_eq, if_neg (by omega), if_neg (by omega), if_pos h]

theorem read_nan {x : Nat} (h : 9218868437227405312 < rung x) : ∃ t, double.read x = .nan (sgn x) t := by
  refine ⟨rung x - 9218868437227405312, ?_⟩
  rw [read_eq, if_neg (by omega), if_neg (by omega), if_neg (by omega)]

theorem read_fin {x : Nat} (h : rung x < 9218868437227405312) :
    ∃ mag place, double.read x = .number (sgn x) mag place ∧ -1074 ≤ place ∧ mag * 2 ^ (place + 1074).toNat = V (rung x) ∧ (rung x = 0 → mag = 0) ∧ (mag = 0 → rung x = 0) := by
  by_cases h1 : rung x < 4503599627370496
  · refine ⟨_, _, by rw [read_eq, if_pos h1], by omega, ?_, fun hz => hz, fun hz => hz⟩
    have : ((-1074 : Int) + 1074).toNat = 0 := by decide
    rw [this, V, VB_low h1]; omega
  · refine ⟨_, _, by rw [read_eq, if_neg h1, if_pos h], by omega, ?_, fun hz => by omega, fun hz => by omega⟩
    have : ((-1074 : Int) + ((rung x / 4503599627370496 - 1 : Nat) : Int) + 1074).toNat = rung x / 4503599627370496 - 1 := by omega
    rw [this, V, VB, if_neg h1]

theorem word_rung {neg : Bool} {R : Nat} (h : R ≤ 9218868437227405312) : rung (double.word neg R) = R := by
  unfold Format.word rung
  rw [sign_double]
  cases neg
  · simp; omega
  · simp; omega

theorem word_sgn {neg : Bool} {R : Nat} (h : R ≤ 9218868437227405312) : sgn (double.word neg R) = neg := by
  unfold Format.word sgn
  rw [sign_double]
  cases neg
  · have : R / 9223372036854775808 = 0 := by omega
    simp [this]
  · have : (9223372036854775808 + R) / 9223372036854775808 = 1 := by omega
    simp [this]

/-! ### order -/

/-- 'signed' of a number that is not negative. -/
theorem signed_nn {s : Bool} {m up : Nat} (h : s = false ∨ m = 0) : signed s m up = ((m * 2 ^ up : Nat) : Int) := by
  unfold signed
  rw [Nat.shiftLeft_eq]
  rcases h with rfl | rfl
  · rfl
  · cases s <;> simp

theorem scale {m : Nat} {i base : Int} (h1 : base ≤ i) (h0 : -1074 ≤ base) : m * 2 ^ (i + 1074).toNat = m * 2 ^ (i - base).toNat * 2 ^ (base + 1074).toNat := by
  rw [Nat.mul_assoc, ← Nat.pow_add, show (i - base).toNat + (base + 1074).toNat = (i + 1074).toNat by omega]

theorem V_lt {r s : Nat} (h : r < s) : V r < V s := VB_lt B_pos h
theorem V_le {r s : Nat} (h : r ≤ s) : V r ≤ V s := VB_le B_pos h
theorem V_lt_iff {r s : Nat} (h : V r < V s) : r < s := VB_lt_iff B_pos h
theorem V_le_iff {r s : Nat} (h : V r ≤ V s) : r ≤ s := VB_le_iff B_pos h
theorem V_inj {r s : Nat} (h : V r = V s) : r = s := by
  have h1 := V_le_iff (Nat.le_of_eq h); have h2 := V_le_iff (Nat.le_of_eq h.symm); omega

theorem order_fin {x y : Nat} (hx : NN x) (hy : NN y) (fx : rung x < 9218868437227405312) (fy : rung y < 9218868437227405312) :
    double.order x y = some (compare (rung x) (rung y)) := by
  obtain ⟨m, i, rx, li, vx, zx, _⟩ := read_fin fx
  obtain ⟨n, j, ry, lj, vy, zy, _⟩ := read_fin fy
  unfold Format.order
  rw [rx, ry]
  simp only [Datum.order]
  rw [signed_nn (hx.sign.imp id zx), signed_nn (hy.sign.imp id zy)]
  have hb1 : min i j ≤ i := by omega
  have hb2 : min i j ≤ j := by omega
  have hb0 : -1074 ≤ min i j := by omega
  rw [scale hb1 hb0] at vx
  rw [scale hb2 hb0] at vy
  have hp : 0 < 2 ^ (min i j + 1074).toNat := Nat.pow_pos (by omega)
  generalize 2 ^ (min i j + 1074).toNat = p at vx vy hp
  generalize m * 2 ^ (i - min i j).toNat = a at vx
  generalize n * 2 ^ (j - min i j).toNat = b at vy
  congr 1
  rcases Nat.lt_trichotomy (rung x) (rung y) with h | h | h
  · have hv := V_lt h
    have hab : a < b := by rw [← vx, ← vy] at hv; exact Nat.lt_of_mul_lt_mul_right hv
    rw [Nat.compare_eq_lt.2 h, Int.compare_eq_lt.2 (by omega)]
  · have hv : V (rung x) = V (rung y) := by rw [h]
    have hab : a = b := by rw [← vx, ← vy] at hv; exact Nat.eq_of_mul_eq_mul_right hp hv
    rw [Nat.compare_eq_eq.2 h, Int.compare_eq_eq.2 (by omega)]
  · have hv := V_lt h
    have hab : b < a := by rw [← vx, ← vy] at hv; exact Nat.lt_of_mul_lt_mul_right hv
    rw [Nat.compare_eq_gt.2 h, Int.compare_eq_gt.2 (by omega)]

theorem order_nn {x y : Nat} (hx : NN x) (hy : NN y) : double.order x y = some (compare (rung x) (rung y)) := by
  by_cases fx : rung x < 9218868437227405312
  · by_cases fy : rung y < 9218868437227405312
    · exact order_fin hx hy fx fy
    · have ey : rung y = 9218868437227405312 := by have := hy.le; omega
      have sy : sgn y = false := by rcases hy.sign with h | h; exact h; omega
      obtain ⟨m, i, rx, _⟩ := read_fin fx
      unfold Format.order
      rw [rx, read_inf ey, sy, Nat.compare_eq_lt.2 (by omega)]
      rfl
  · have ex : rung x = 9218868437227405312 := by have := hx.le; omega
    have sx : sgn x = false := by rcases hx.sign with h | h; exact h; omega
    by_cases fy : rung y < 9218868437227405312
    · obtain ⟨m, i, ry, _⟩ := read_fin fy
      unfold Format.order
      rw [ry, read_inf ex, sx, Nat.compare_eq_gt.2 (by omega)]
      rfl
    · have ey : rung y = 9218868437227405312 := by have := hy.le; omega
      have sy : sgn y = false := by rcases hy.sign with h | h; exact h; omega
      unfold Format.order
      rw [read_inf ex, read_inf ey, sx, sy, ex, ey]
      decide

theorem order_nan_left {x y : Nat} (h : 9218868437227405312 < rung x) : double.order x y = none := by
  obtain ⟨t, ht⟩ := read_nan h
  unfold Format.order
  rw [ht]; rfl

theorem order_nan_right {x y : Nat} (h : 9218868437227405312 < rung y) : double.order x y = none := by
  obtain ⟨t, ht⟩ := read_nan h
  unfold Format.order
  rw [ht]
  cases double.read x <;> rfl

/-- what '>= c' says, c a number that is not negative. -/
theorem nn_of_geq {x c : Nat} (hc : NN c) (fc : rung c < 9218868437227405312) (h : double.order x c = some .gt ∨ double.order x c = some .eq) : NN x := by
  by_cases hn : 9218868437227405312 < rung x
  · rw [order_nan_left hn] at h
    simp at h
  · refine ⟨by omega, ?_⟩
    cases hs : sgn x with
    | false => exact Or.inl rfl
    | true =>
      right
      obtain ⟨n, j, ry, lj, vy, zy, _⟩ := read_fin fc
      by_cases fx : rung x < 9218868437227405312
      · obtain ⟨m, i, rx, li, vx, zx, zm⟩ := read_fin fx
        by_cases hm : m = 0
        · exact zm hm
        · exfalso
          have e : double.order x c = some .lt := by
            unfold Format.order
            rw [rx, ry, hs]
            simp only [Datum.order]
            rw [Int.compare_eq_lt.2]
            have hp : 0 < m * 2 ^ (i - min i j).toNat := Nat.mul_pos (by omega) (Nat.pow_pos (by omega))
            have h1 : signed true m (i - min i j).toNat = -((m * 2 ^ (i - min i j).toNat : Nat) : Int) := by unfold signed; rw [Nat.shiftLeft_eq]; rfl
            rw [h1, signed_nn (hc.sign.imp id zy)]
            generalize m * 2 ^ (i - min i j).toNat = v at hp
            generalize n * 2 ^ (j - min i j).toNat = u
            omega
          rw [e] at h
          simp at h
      · exfalso
        have ex : rung x = 9218868437227405312 := by omega
        have e : double.order x c = some .lt := by
          unfold Format.order
          rw [read_inf ex, ry, hs]; rfl
        rw [e] at h
        simp at h

/-! ### products -/

theorem near_word {neg : Bool} {x R : Nat} (h : Near x R) (hz : neg = true → x = 0) : NN (double.word neg R) ∧ rung (double.word neg R) = R := by
  have hR := h.inf
  refine ⟨⟨by rw [word_rung hR]; exact hR, ?_⟩, word_rung hR⟩
  rw [word_sgn hR, word_rung hR]
  cases neg with
  | false => exact Or.inl rfl
  | true =>
    right
    have hx := hz rfl
    subst hx
    have := h.le (S := 0) (Nat.zero_le _)
    omega

theorem mul_fin {x y : Nat} (hx : NN x) (hy : NN y) (fx : rung x < 9218868437227405312) (fy : rung y < 9218868437227405312) :
    ∃ r, double.mul x y = some r ∧ NN r ∧ Near (V (rung x) * V (rung y)) (rung r) := by
  obtain ⟨m, i, rx, li, vx, zx, _⟩ := read_fin fx
  obtain ⟨n, j, ry, lj, vy, zy, _⟩ := read_fin fy
  obtain ⟨R, hR, hN⟩ := nearest_near (sgn x ^^ sgn y) (m * n) (i + j) (by omega)
  have hval : m * n * 2 ^ (i + j + 2148).toNat = V (rung x) * V (rung y) := by
    rw [← vx, ← vy, show (i + j + 2148).toNat = (i + 1074).toNat + (j + 1074).toNat by omega, Nat.pow_add]
    generalize 2 ^ (i + 1074).toNat = p
    generalize 2 ^ (j + 1074).toNat = q
    rw [Nat.mul_assoc, Nat.mul_assoc]
    congr 1
    rw [← Nat.mul_assoc, ← Nat.mul_assoc, Nat.mul_comm n p]
  rw [hval] at hN
  refine ⟨double.word (sgn x ^^ sgn y) R, ?_, ?_⟩
  · unfold Format.mul
    rw [rx, ry]
    simp only [Datum.product, Option.map_some, Format.write]
    rw [hR]
  · have hw := near_word (neg := sgn x ^^ sgn y) hN (fun hs => by
      rcases hx.sign with h | h
      · rcases hy.sign with k | k
        · rw [h, k] at hs; cases hs
        · rw [← vy, zy k]; simp
      · rw [← vx, zx h]; simp)
    rw [hw.2]
    exact ⟨hw.1, hN⟩

theorem mul_inf {x y : Nat} (hx : NN x) (hy : NN y) (ex : rung x = 9218868437227405312) (hy0 : rung y ≠ 0) : ∃ r, double.mul x y = some r ∧ NN r ∧ rung r = 9218868437227405312 := by
  have sx : sgn x = false := by rcases hx.sign with h | h; exact h; omega
  have sy : sgn y = false := by rcases hy.sign with h | h; exact h; omega
  have hr : rung (double.word false 9218868437227405312) = 9218868437227405312 := word_rung (by omega)
  refine ⟨double.word false 9218868437227405312, ?_, ⟨by rw [hr]; omega, Or.inl (word_sgn (by omega))⟩, hr⟩
  unfold Format.mul
  rw [read_inf ex, sx]
  by_cases fy : rung y < 9218868437227405312
  · obtain ⟨n, j, ry, lj, vy, zy, zn⟩ := read_fin fy
    rw [ry, sy]
    have hn : n ≠ 0 := fun h => hy0 (zn h)
    simp only [Datum.product, if_neg hn, Option.map_some, Format.write, Bool.xor_false, inf_double]
  · have ey : rung y = 9218868437227405312 := by have := hy.le; omega
    rw [read_inf ey, sy]
    simp only [Datum.product, Option.map_some, Format.write, Bool.xor_false, inf_double]

theorem mul_nan {x y : Nat} (hx : rung x = 9218868437227405312) (hy : rung y = 0) : double.mul x y = none := by
  obtain ⟨n, j, ry, lj, vy, zy, zn⟩ := read_fin (x := y) (by omega)
  unfold Format.mul
  rw [read_inf hx, ry, zy hy]
  rfl

/-! ### sums -/

theorem scale2 (base : Int) (h : -1074 ≤ base) (t : Nat) : t * 2 ^ (base + 2148).toNat = t * 2 ^ (base + 1074).toNat * U := by
  rw [Nat.mul_assoc, U_pow, show (base + 1074).toNat + 1074 = (base + 2148).toNat by omega]

theorem add_fin {x y : Nat} (hx : NN x) (hy : NN y) (fx : rung x < 9218868437227405312) (fy : rung y < 9218868437227405312) :
    ∃ r, double.add x y = some r ∧ NN r ∧ Near ((V (rung x) + V (rung y)) * U) (rung r) := by
  obtain ⟨m, i, rx, li, vx, zx, _⟩ := read_fin fx
  obtain ⟨n, j, ry, lj, vy, zy, _⟩ := read_fin fy
  have hb1 : min i j ≤ i := by omega
  have hb2 : min i j ≤ j := by omega
  have hb0 : -1074 ≤ min i j := by omega
  rw [scale hb1 hb0] at vx
  rw [scale hb2 hb0] at vy
  have htot : signed (sgn x) m (i - min i j).toNat + signed (sgn y) n (j - min i j).toNat = ((m * 2 ^ (i - min i j).toNat + n * 2 ^ (j - min i j).toNat : Nat) : Int) := by
    rw [signed_nn (hx.sign.imp id zx), signed_nn (hy.sign.imp id zy)]; omega
  unfold Format.add
  rw [rx, ry]
  simp only [Datum.sum, Option.map_some, Format.write]
  rw [htot]
  generalize hA : m * 2 ^ (i - min i j).toNat = a at vx
  generalize hB : n * 2 ^ (j - min i j).toNat = b at vy
  generalize hneg : (if ((a + b : Nat) : Int) = 0 then sgn x && sgn y else decide (((a + b : Nat) : Int) < 0)) = neg
  obtain ⟨R, hR, hN⟩ := nearest_near neg (a + b) (min i j) (by omega)
  rw [scale2 _ hb0, Nat.add_mul, vx, vy] at hN
  refine ⟨double.word neg R, by rw [show (((a + b : Nat) : Int)).natAbs = a + b by omega, hR], ?_⟩
  have hw := near_word (neg := neg) hN (fun hs => by
    by_cases h0 : a + b = 0
    · have ha : a = 0 := by omega
      have hb : b = 0 := by omega
      rw [← vx, ← vy, ha, hb]; simp
    · exfalso
      rw [if_neg (by omega)] at hneg
      rw [← hneg] at hs
      simp at hs
      omega)
  rw [hw.2]
  exact ⟨hw.1, hN⟩

theorem add_inf {x y : Nat} (hx : NN x) (hy : NN y) (h : rung x = 9218868437227405312 ∨ rung y = 9218868437227405312) : ∃ r, double.add x y = some r ∧ NN r ∧ rung r = 9218868437227405312 := by
  have hr : rung (double.word false 9218868437227405312) = 9218868437227405312 := word_rung (by omega)
  refine ⟨double.word false 9218868437227405312, ?_, ⟨by rw [hr]; omega, Or.inl (word_sgn (by omega))⟩, hr⟩
  unfold Format.add
  by_cases ex : rung x = 9218868437227405312
  · have sx : sgn x = false := by rcases hx.sign with h | h; exact h; omega
    rw [read_inf ex, sx]
    by_cases fy : rung y < 9218868437227405312
    · obtain ⟨n, j, ry, _⟩ := read_fin fy
      rw [ry]
      simp only [Datum.sum, Option.map_some, Format.write, inf_double]
    · have ey : rung y = 9218868437227405312 := by have := hy.le; omega
      have sy : sgn y = false := by rcases hy.sign with h | h; exact h; omega
      rw [read_inf ey, sy]
      simp only [Datum.sum, if_true, Option.map_some, Format.write, inf_double]
  · have ey : rung y = 9218868437227405312 := by rcases h with h | h; exact absurd h ex; exact h
    have sy : sgn y = false := by rcases hy.sign with h | h; exact h; omega
    obtain ⟨m, i, rx, _⟩ := read_fin (x := x) (by have := hx.le; omega)
    rw [rx, read_inf ey, sy]
    simp only [Datum.sum, Option.map_some, Format.write, inf_double]

theorem add_nan_right {x y : Nat} (h : 9218868437227405312 < rung y) : double.add x y = none := by
  obtain ⟨t, ht⟩ := read_nan h
  unfold Format.add
  rw [ht]
  cases double.read x <;> rfl

theorem mul_nan_left {x y : Nat} (h : 9218868437227405312 < rung x) : double.mul x y = none := by
  obtain ⟨t, ht⟩ := read_nan h
  unfold Format.mul
  rw [ht]; rfl

/-! ### a difference that is not negative -/

theorem sub_fin {x y : Nat} (hx : NN x) (hy : NN y) (sx : sgn x = false) (fx : rung x < 9218868437227405312) (hxy : rung y ≤ rung x) :
    ∃ r, double.sub x y = some r ∧ NN r ∧ Near ((V (rung x) - V (rung y)) * U) (rung r) := by
  obtain ⟨m, i, rx, li, vx, zx, _⟩ := read_fin fx
  obtain ⟨n, j, ry, lj, vy, zy, _⟩ := read_fin (x := y) (by omega)
  have hb1 : min i j ≤ i := by omega
  have hb2 : min i j ≤ j := by omega
  have hb0 : -1074 ≤ min i j := by omega
  rw [scale hb1 hb0] at vx
  rw [scale hb2 hb0] at vy
  have hVle := V_le hxy
  have hp : 0 < 2 ^ (min i j + 1074).toNat := Nat.pow_pos (by omega)
  have hs2 : signed (!sgn y) n (j - min i j).toNat = -((n * 2 ^ (j - min i j).toNat : Nat) : Int) := by
    unfold signed
    rw [Nat.shiftLeft_eq]
    rcases hy.sign with h | h
    · rw [h]; rfl
    · rw [zy h]; cases sgn y <;> simp
  have hs1 := signed_nn (up := (i - min i j).toNat) (hx.sign.imp id zx)
  unfold Format.sub
  rw [rx, ry]
  simp only [Datum.opposite, Datum.sum, Option.map_some, Format.write]
  rw [hs1, hs2, sx]
  generalize hA : m * 2 ^ (i - min i j).toNat = a at vx
  generalize hB : n * 2 ^ (j - min i j).toNat = b at vy
  have hab : b ≤ a := by
    rw [← vx, ← vy] at hVle
    exact Nat.le_of_mul_le_mul_right hVle hp
  have hneg : (if ((a : Nat) : Int) + -((b : Nat) : Int) = 0 then false && !sgn y else decide (((a : Nat) : Int) + -((b : Nat) : Int) < 0)) = false := by
    split
    · rfl
    · exact decide_eq_false (by omega)
  rw [hneg]
  obtain ⟨R, hR, hN⟩ := nearest_near false (a - b) (min i j) (by omega)
  rw [scale2 _ hb0, Nat.sub_mul, vx, vy] at hN
  refine ⟨double.word false R, by rw [show (((a : Nat) : Int) + -((b : Nat) : Int)).natAbs = a - b by omega, hR], ?_⟩
  have hw := near_word (neg := false) hN (fun hs => by cases hs)
  rw [hw.2]
  exact ⟨hw.1, hN⟩

end Go.Proofs.Qxb6600241a.Fl
