/-
  THE PLAIN LAW BEHIND 'FnLoadViewScoreDecidesWhateverTheLoads': with w in [0.85, 1] and 0 <= v <= 0.79 w (rounded), the score v counts as less than w, and w does not count as less than v. No Go in sight.
-/
import Derived.Test.Qxb6600241aFl2
namespace Go.Proofs.Qxb6600241a.Fl
open Ieee

theorem pow2_succ (n : Nat) : pow2 (n + 1) = 2 * pow2 n := by unfold pow2; rw [Nat.pow_succ]; omega
theorem pow2_add (a b : Nat) : pow2 (a + b) = pow2 a * pow2 b := Nat.pow_add 2 a b
theorem pow2_of (a b : Nat) (h : a = b + 1) : pow2 a = 2 * pow2 b := by subst h; exact pow2_succ b
theorem pow2_sum (a b c d : Nat) (h : a = b + c) (hb : pow2 b = d) : pow2 a = d * pow2 c := by subst h; rw [pow2_add, hb]
theorem V_at (q c k : Nat) (hc : c = q * 4503599627370496) (h1 : 4503599627370496 ≤ k) (h2 : k ≤ 9007199254740992) : V (c + k) = k * pow2 q := by
  subst hc
  exact VB_kept B_pos q k (by omega) (Or.inr h1)
theorem V_some (q k : Nat) (h : k ≤ 9007199254740992) : ∃ R, V R = k * pow2 q := VB_repr B_pos q k (by omega)

/-- 2^1021: the unit of V between a half and one is 2^-53. -/
def H : Nat := pow2 1021
theorem H_pos : 0 < H := pow2_pos 1021
theorem pow2_1022 : pow2 1022 = 2 * H := by unfold H; exact pow2_of 1022 1021 (by omega)
theorem pow2_53 : pow2 53 = 9007199254740992 := by decide
theorem U_H : U = 9007199254740992 * H := by unfold U H; exact pow2_sum 1074 53 1021 9007199254740992 (by omega) pow2_53

theorem V_half (k : Nat) (h1 : 4503599627370496 ≤ k) (h2 : k ≤ 9007199254740992) : V (4598175219545276416 + k) = k * H := by
  unfold H; exact V_at 1021 4598175219545276416 k (by omega) h1 h2

theorem V_two (k : Nat) (h1 : 4503599627370496 ≤ k) (h2 : k ≤ 9007199254740992) : V (4602678819172646912 + k) = k * (2 * H) := by
  rw [← pow2_1022]; exact V_at 1022 4602678819172646912 k (by omega) h1 h2

theorem V_repr (k : Nat) (h : k ≤ 9007199254740992) : ∃ R, V R = k * H ∧ R ≤ 4607182418800017408 := by
  obtain ⟨R, hR⟩ := V_some 1021 k h
  have hR' : V R = k * H := by unfold H; exact hR
  refine ⟨R, hR', V_le_iff ?_⟩
  rw [hR', show 4607182418800017408 = 4598175219545276416 + 9007199254740992 by omega, V_half _ (by omega) (by omega)]
  exact Nat.mul_le_mul_right _ h

theorem nn_const (c : Nat) (h : c ≤ 9218868437227405312) : NN c ∧ rung c = c ∧ sgn c = false := by
  have hr : rung c = c := by unfold rung; omega
  have hs : sgn c = false := by unfold sgn; rw [show c / 9223372036854775808 = 0 by omega]; rfl
  exact ⟨⟨by rw [hr]; exact h, Or.inl hs⟩, hr, hs⟩

theorem le_of_order {x y : Nat} (hx : NN x) (hy : NN y) (h : double.order x y = some .lt ∨ double.order x y = some .eq) : rung x ≤ rung y := by
  rw [order_nn hx hy] at h
  simp only [Option.some.injEq] at h
  rcases h with h | h
  · have := Nat.compare_eq_lt.1 h; omega
  · have := Nat.compare_eq_eq.1 h; omega

theorem ge_of_order {x y : Nat} (hx : NN x) (hy : NN y) (h : double.order x y = some .gt ∨ double.order x y = some .eq) : rung y ≤ rung x := by
  rw [order_nn hx hy] at h
  simp only [Option.some.injEq] at h
  rcases h with h | h
  · have := Nat.compare_eq_gt.1 h; omega
  · have := Nat.compare_eq_eq.1 h; omega

/-- the product of w by 1.25 is not below w. -/
theorem grow_ge {w : Nat} (hw : NN w) : ∃ t, double.mul w 4608308318706860032 = some t ∧ NN t ∧ rung w ≤ rung t := by
  obtain ⟨hc, rc, _⟩ := nn_const 4608308318706860032 (by omega)
  by_cases fw : rung w < 9218868437227405312
  · obtain ⟨t, ht, ht1, ht2⟩ := mul_fin hw hc fw (by rw [rc]; omega)
    refine ⟨t, ht, ht1, ht2.ge ?_ (by omega)⟩
    rw [rc, show 4608308318706860032 = 4602678819172646912 + 5629499534213120 by omega, V_two _ (by omega) (by omega), U_H]
    refine Nat.mul_le_mul_left _ ?_
    omega
  · obtain ⟨t, ht, ht1, ht2⟩ := mul_inf hw hc (by have := hw.le; omega) (by rw [rc]; omega)
    exact ⟨t, ht, ht1, by rw [ht2]; exact hw.le⟩

structure ScoreFacts (v w : Nat) : Prop where
  first : ∃ p, double.mul v 4608308318706860032 = some p ∧ double.order p w = some .lt
  second : ∃ q r s, double.sub 4607182418800017408 v = some q ∧ double.sub 4607182418800017408 w = some r ∧ double.mul 4610785298501913805 r = some s ∧ double.order q s = some .gt
  third : ∃ t, double.mul w 4608308318706860032 = some t ∧ double.order t v ≠ some .lt

theorem mul_times {c w : Nat} (hw : NN w) (fw : rung w < 9218868437227405312) (hc : c < 9218868437227405312) : ∃ m, double.mul c w = some m ∧ NN m ∧ Near (V c * V (rung w)) (rung m) := by
  obtain ⟨nc, rc, _⟩ := nn_const c (by omega)
  obtain ⟨m, h1, h2, h3⟩ := mul_fin nc hw (by rw [rc]; exact hc) fw
  rw [rc] at h3
  exact ⟨m, h1, h2, h3⟩

theorem range_w {w : Nat} (h1 : double.order w 4605831338911806259 = some .gt ∨ double.order w 4605831338911806259 = some .eq) (h2 : double.order w 4607182418800017408 = some .lt ∨ double.order w 4607182418800017408 = some .eq) :
    NN w ∧ ∃ W, rung w = 4598175219545276416 + W ∧ 7656119366529843 ≤ W ∧ W ≤ 9007199254740992 := by
  obtain ⟨n85, r85, _⟩ := nn_const 4605831338911806259 (by omega)
  obtain ⟨n1, r1, _⟩ := nn_const 4607182418800017408 (by omega)
  have hw := nn_of_geq n85 (by rw [r85]; omega) h1
  have a1 := ge_of_order hw n85 h1
  have a2 := le_of_order hw n1 h2
  rw [r85] at a1
  rw [r1] at a2
  exact ⟨hw, rung w - 4598175219545276416, by omega, by omega, by omega⟩

theorem score_facts {v w m : Nat} (h1 : double.order w 4605831338911806259 = some .gt ∨ double.order w 4605831338911806259 = some .eq) (h2 : double.order w 4607182418800017408 = some .lt ∨ double.order w 4607182418800017408 = some .eq)
    (h3 : double.order v 0 = some .gt ∨ double.order v 0 = some .eq) (hm : double.mul 4605290906956521800 w = some m) (h4 : double.order v m = some .lt ∨ double.order v m = some .eq) : ScoreFacts v w := by
  obtain ⟨hw, W, rw', w1, w2⟩ := range_w h1 h2
  obtain ⟨n0, r0, _⟩ := nn_const 0 (by omega)
  have hv := nn_of_geq n0 (by rw [r0]; omega) h3
  have fw : rung w < 9218868437227405312 := by omega
  have hH := H_pos
  have hHH : 0 < H * H := Nat.mul_pos hH hH
  have hVw : V (rung w) = W * H := by rw [rw']; exact V_half W (by omega) w2
  obtain ⟨m', hm', nm, near_m⟩ := mul_times (c := 4605290906956521800) hw fw (by omega)
  rw [hm] at hm'
  obtain rfl : m = m' := by simpa using hm'
  -- the product by 0.79, from above
  obtain ⟨M, hM⟩ : ∃ M, M = 7115687411245384 * W / 9007199254740992 + 1 := ⟨_, rfl⟩
  have hMw : 7115687411245384 * W ≤ M * 9007199254740992 ∧ M * 9007199254740992 ≤ 7115687411245384 * W + 9007199254740992 := by omega
  have hM1 : 4503599627370496 ≤ M := by omega
  have hM2 : M ≤ 9007199254740992 := by omega
  have rm : rung m ≤ 4598175219545276416 + M := by
    refine near_m.le ?_
    rw [V_half M hM1 hM2, hVw, U_H, show 4605290906956521800 = 4598175219545276416 + 7115687411245384 by omega, V_half _ (by omega) (by omega)]
    have e1 : 7115687411245384 * H * (W * H) = 7115687411245384 * W * (H * H) := by
      rw [Nat.mul_assoc, Nat.mul_assoc, Nat.mul_left_comm H W H]
    have e2 : M * H * (9007199254740992 * H) = M * 9007199254740992 * (H * H) := by
      rw [Nat.mul_assoc, Nat.mul_assoc, Nat.mul_left_comm H 9007199254740992 H]
    rw [e1, e2]
    exact Nat.mul_le_mul_right _ hMw.1
  have rv : rung v ≤ 4598175219545276416 + M := Nat.le_trans (le_of_order hv nm h4) rm
  have fv : rung v < 9218868437227405312 := by omega
  have hVv : V (rung v) ≤ M * H := by rw [← V_half M hM1 hM2]; exact V_le rv
  obtain ⟨n1, r1, s1⟩ := nn_const 4607182418800017408 (by omega)
  have hV1 : V 4607182418800017408 = 9007199254740992 * H := by
    rw [show 4607182418800017408 = 4598175219545276416 + 9007199254740992 by omega]; exact V_half _ (by omega) (by omega)
  refine ⟨?_, ?_, ?_⟩
  · obtain ⟨nc, rc, _⟩ := nn_const 4608308318706860032 (by omega)
    obtain ⟨p, hp, np, near_p⟩ := mul_fin hv nc fv (by rw [rc]; omega)
    refine ⟨p, hp, ?_⟩
    have rp : rung p ≤ 4598175219545276416 + (W - 1) := by
      refine near_p.le ?_
      rw [V_half (W - 1) (by omega) (by omega), U_H, rc, show 4608308318706860032 = 4602678819172646912 + 5629499534213120 by omega, V_two _ (by omega) (by omega)]
      have e1 : V (rung v) * (5629499534213120 * (2 * H)) ≤ M * H * (5629499534213120 * (2 * H)) := Nat.mul_le_mul_right _ hVv
      have e2 : M * H * (5629499534213120 * (2 * H)) = M * 11258999068426240 * (H * H) := by
        rw [show 5629499534213120 * (2 * H) = 11258999068426240 * H by omega, Nat.mul_assoc, Nat.mul_assoc, Nat.mul_left_comm H 11258999068426240 H]
      have e3 : (W - 1) * H * (9007199254740992 * H) = (W - 1) * 9007199254740992 * (H * H) := by
        rw [Nat.mul_assoc, Nat.mul_assoc, Nat.mul_left_comm H 9007199254740992 H]
      rw [e2] at e1
      rw [e3]
      refine Nat.le_trans e1 (Nat.mul_le_mul_right _ ?_)
      omega
    rw [order_nn np hw, Nat.compare_eq_lt.2 (by omega)]
  · obtain ⟨q, hq, nq, near_q⟩ := sub_fin n1 hv s1 (by rw [r1]; omega) (by rw [r1]; omega)
    obtain ⟨r, hr, nr, near_r⟩ := sub_fin n1 hw s1 (by rw [r1]; omega) (by rw [r1]; omega)
    rw [r1, hV1] at near_q near_r
    rw [hVw, ← Nat.sub_mul] at near_r
    obtain ⟨R1, v1, l1⟩ := V_repr (9007199254740992 - M) (by omega)
    obtain ⟨R2, v2, l2⟩ := V_repr (9007199254740992 - W) (by omega)
    have q1 : R1 ≤ rung q := by
      refine near_q.ge ?_ (by omega)
      refine Nat.mul_le_mul_right _ ?_
      rw [v1, Nat.sub_mul]
      omega
    have r2 : rung r = R2 := by
      have a := near_r.ge (S := R2) (by rw [v2]; exact Nat.le_refl _) (by omega)
      have b := near_r.le (S := R2) (by rw [v2]; exact Nat.le_refl _)
      omega
    obtain ⟨s, hs, ns, near_s⟩ := mul_times (c := 4610785298501913805) nr (by omega) (by omega)
    refine ⟨q, r, s, hq, hr, hs, ?_⟩
    obtain ⟨S, hS⟩ : ∃ S, S = 16212958658533786 * (9007199254740992 - W) / 9007199254740992 + 1 := ⟨_, rfl⟩
    obtain ⟨R3, v3, l3⟩ := V_repr S (by omega)
    have s3 : rung s ≤ R3 := by
      refine near_s.le ?_
      rw [r2, v2, v3, U_H, show 4610785298501913805 = 4602678819172646912 + 8106479329266893 by omega, V_two _ (by omega) (by omega)]
      have e1 : 8106479329266893 * (2 * H) * ((9007199254740992 - W) * H) = 16212958658533786 * (9007199254740992 - W) * (H * H) := by
        rw [show 8106479329266893 * (2 * H) = 16212958658533786 * H by omega, Nat.mul_assoc, Nat.mul_assoc, Nat.mul_left_comm H (9007199254740992 - W) H]
      have e2 : S * H * (9007199254740992 * H) = S * 9007199254740992 * (H * H) := by
        rw [Nat.mul_assoc, Nat.mul_assoc, Nat.mul_left_comm H 9007199254740992 H]
      rw [e1, e2]
      refine Nat.mul_le_mul_right _ ?_
      omega
    have hlt : R3 < R1 := by
      apply V_lt_iff
      rw [v1, v3]
      exact Nat.mul_lt_mul_of_pos_right (by omega) hH
    rw [order_nn nq ns, Nat.compare_eq_gt.2 (by omega)]
  · obtain ⟨t, ht, nt, gt⟩ := grow_ge hw
    refine ⟨t, ht, ?_⟩
    rw [order_nn nt hv]
    intro h
    have := Nat.compare_eq_lt.1 (by simpa using h)
    omega

end Go.Proofs.Qxb6600241a.Fl
