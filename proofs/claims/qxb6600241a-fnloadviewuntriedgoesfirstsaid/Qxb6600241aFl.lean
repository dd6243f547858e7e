/-
  PLAIN LAWS ON IEEE DOUBLES THAT ARE NOT NEGATIVE: a word's rung numbers its magnitude; to round is monotone, and exact at every rung. No Go in sight.
  'V r': the magnitude of rung r in units of 2^-1074. 'Near x R': R is the rung nearest to x, x in units of 2^-2148, ties to even.
-/
import Ieee.Arith
namespace Go.Proofs.Qxb6600241a.Fl
open Ieee

/-! ### magnitudes by rung; B the number of rungs to a binade -/

def VB (B r : Nat) : Nat := if r < B then r else (B + r % B) * 2 ^ (r / B - 1)

theorem VB_low {B r : Nat} (h : r < B) : VB B r = r := by unfold VB; rw [if_pos h]

theorem VB_form {B : Nat} (hB : 0 < B) (q s : Nat) (hs : s < B) : VB B ((q + 1) * B + s) = (B + s) * 2 ^ q := by
  unfold VB
  have h1 : ¬ (q + 1) * B + s < B := by rw [Nat.add_mul]; omega
  have h2 : ((q + 1) * B + s) % B = s := by rw [Nat.add_comm, Nat.add_mul_mod_self_right, Nat.mod_eq_of_lt hs]
  have h3 : ((q + 1) * B + s) / B = q + 1 := by rw [Nat.add_comm, Nat.add_mul_div_right _ _ hB, Nat.div_eq_of_lt hs]; omega
  rw [if_neg h1, h2, h3]
  simp

/-- 'kept' digits at place q. -/
theorem VB_kept {B : Nat} (hB : 0 < B) (q k : Nat) (hk : k ≤ 2 * B) (h : q = 0 ∨ B ≤ k) : VB B (q * B + k) = k * 2 ^ q := by
  by_cases h1 : k < B
  · have hq : q = 0 := by omega
    subst hq
    rw [Nat.zero_mul, Nat.zero_add, VB_low h1]; simp
  · by_cases h2 : k < 2 * B
    · have e : q * B + k = (q + 1) * B + (k - B) := by rw [Nat.add_mul]; omega
      rw [e, VB_form hB q (k - B) (by omega)]
      congr 1; omega
    · have e : q * B + k = (q + 1 + 1) * B + 0 := by rw [Nat.add_mul, Nat.add_mul]; omega
      rw [e, VB_form hB (q + 1) 0 hB]
      have : k = B * 2 := by omega
      rw [this, Nat.pow_succ, Nat.add_zero, Nat.mul_assoc, Nat.mul_comm 2 (2 ^ q)]

theorem VB_succ {B : Nat} (hB : 0 < B) (r : Nat) : VB B r < VB B (r + 1) := by
  by_cases h : r < B
  · have h0 := VB_kept hB 0 r (by omega) (Or.inl rfl)
    have h1 := VB_kept hB 0 (r + 1) (by omega) (Or.inl rfl)
    simp at h0 h1
    omega
  · have hq : 1 ≤ r / B := (Nat.le_div_iff_mul_le hB).2 (by omega)
    have hs : r % B < B := Nat.mod_lt _ hB
    have hr : r = (r / B - 1) * B + (B + r % B) := by
      have := Nat.div_add_mod r B
      have h2 : B * (r / B) = (r / B - 1) * B + B := by
        obtain ⟨m, hm⟩ : ∃ m, r / B = m + 1 := ⟨r / B - 1, by omega⟩
        rw [hm, Nat.add_sub_cancel, Nat.mul_add, Nat.mul_comm]; omega
      omega
    have h0 := VB_kept hB (r / B - 1) (B + r % B) (by omega) (Or.inr (by omega))
    have h1 := VB_kept hB (r / B - 1) (B + r % B + 1) (by omega) (Or.inr (by omega))
    rw [← hr] at h0
    rw [← Nat.add_assoc, ← hr] at h1
    rw [h0, h1]
    exact Nat.mul_lt_mul_of_pos_right (by omega) (Nat.pow_pos (by omega))

theorem VB_lt {B : Nat} (hB : 0 < B) {r s : Nat} (h : r < s) : VB B r < VB B s := by
  induction h with
  | refl => exact VB_succ hB r
  | step _ ih => exact Nat.lt_trans ih (VB_succ hB _)

theorem VB_le {B : Nat} (hB : 0 < B) {r s : Nat} (h : r ≤ s) : VB B r ≤ VB B s := by
  rcases Nat.lt_or_eq_of_le h with h | rfl
  · exact Nat.le_of_lt (VB_lt hB h)
  · exact Nat.le_refl _

theorem VB_le_iff {B : Nat} (hB : 0 < B) {r s : Nat} (h : VB B r ≤ VB B s) : r ≤ s := by
  by_cases h1 : r ≤ s
  · exact h1
  · have := VB_lt hB (show s < r by omega); omega

theorem VB_lt_iff {B : Nat} (hB : 0 < B) {r s : Nat} (h : VB B r < VB B s) : r < s := by
  by_cases h1 : r < s
  · exact h1
  · have := VB_le hB (show s ≤ r by omega); omega

/-- every number of at most B's digits and one is some rung's. -/
theorem VB_repr {B : Nat} (hB : 0 < B) : ∀ (j k : Nat), k ≤ 2 * B → ∃ R, VB B R = k * 2 ^ j
  | 0, k, hk => ⟨0 * B + k, by rw [VB_kept hB 0 k hk (Or.inl rfl)]⟩
  | j + 1, k, hk => by
    by_cases h : B ≤ k
    · exact ⟨(j + 1) * B + k, VB_kept hB (j + 1) k hk (Or.inr h)⟩
    · obtain ⟨R, hR⟩ := VB_repr hB j (2 * k) (by omega)
      exact ⟨R, by rw [hR, Nat.pow_succ]; rw [Nat.mul_comm 2 k, Nat.mul_assoc, Nat.mul_comm 2]⟩

/-! ### the nearest rung -/

/-- R is nearest to x among the rungs' magnitudes (u times VB), ties to even. -/
structure NearB (B u x R : Nat) : Prop where
  low : 0 < R → VB B (R - 1) * u + VB B R * u ≤ 2 * x ∧ (VB B (R - 1) * u + VB B R * u = 2 * x → R % 2 = 0)
  high : 2 * x ≤ VB B R * u + VB B (R + 1) * u ∧ (2 * x = VB B R * u + VB B (R + 1) * u → R % 2 = 0)

theorem NearB.mono {B u x y R S : Nat} (hB : 0 < B) (hu : 0 < u) (h : NearB B u x R) (k : NearB B u y S) (hxy : x ≤ y) : R ≤ S := by
  by_cases hRS : R ≤ S
  · exact hRS
  · have hR : 0 < R := by omega
    obtain ⟨l1, l2⟩ := h.low hR
    obtain ⟨k1, k2⟩ := k.high
    have e1 : VB B S * u ≤ VB B (R - 1) * u := Nat.mul_le_mul_right u (VB_le hB (by omega))
    have e2 : VB B (S + 1) * u ≤ VB B R * u := Nat.mul_le_mul_right u (VB_le hB (by omega))
    have p1 := l2 (by omega)
    have p2 := k2 (by omega)
    by_cases hs : R = S + 1
    · omega
    · have e3 : VB B (S + 1) * u < VB B R * u := Nat.mul_lt_mul_of_pos_right (VB_lt hB (by omega)) hu
      omega

theorem NearB.ge {B u x R S : Nat} (hB : 0 < B) (hu : 0 < u) (h : NearB B u x R) (hx : VB B S * u ≤ x) : S ≤ R := by
  by_cases hRS : S ≤ R
  · exact hRS
  · have k1 := h.high.1
    have e1 : VB B R * u < VB B S * u := Nat.mul_lt_mul_of_pos_right (VB_lt hB (by omega)) hu
    have e2 : VB B (R + 1) * u ≤ VB B S * u := Nat.mul_le_mul_right u (VB_le hB (by omega))
    omega

theorem NearB.le {B u x R S : Nat} (hB : 0 < B) (hu : 0 < u) (h : NearB B u x R) (hx : x ≤ VB B S * u) : R ≤ S := by
  by_cases hRS : R ≤ S
  · exact hRS
  · have l1 := (h.low (by omega)).1
    have e1 : VB B S * u < VB B R * u := Nat.mul_lt_mul_of_pos_right (VB_lt hB (by omega)) hu
    have e2 : VB B S * u ≤ VB B (R - 1) * u := Nat.mul_le_mul_right u (VB_le hB (by omega))
    omega

/-! ### 'cut': the digits that are kept -/

theorem cut_eq (neg : Bool) (n d : Nat) : Toward.even.cut neg n d =
    n / (1 <<< min d (n.log2 + 2)) + (decide (1 <<< min d (n.log2 + 2) < 2 * (n % (1 <<< min d (n.log2 + 2)))) || (1 <<< min d (n.log2 + 2) == 2 * (n % (1 <<< min d (n.log2 + 2))) && n / (1 <<< min d (n.log2 + 2)) % 2 == 1)).toNat := rfl

theorem cut_near (neg : Bool) (n d : Nat) : 2 * (Toward.even.cut neg n d * 2 ^ d) ≤ 2 * n + 2 ^ d ∧ 2 * n ≤ 2 * (Toward.even.cut neg n d * 2 ^ d) + 2 ^ d ∧
    (2 * (Toward.even.cut neg n d * 2 ^ d) = 2 * n + 2 ^ d → Toward.even.cut neg n d % 2 = 0) ∧ (2 * n = 2 * (Toward.even.cut neg n d * 2 ^ d) + 2 ^ d → Toward.even.cut neg n d % 2 = 0) := by
  rw [cut_eq]
  by_cases hd : d ≤ n.log2 + 2
  · rw [Nat.min_eq_left hd, Nat.one_shiftLeft]
    have hg : 0 < 2 ^ d := Nat.pow_pos (by omega)
    generalize 2 ^ d = g at hg ⊢
    have hdm := Nat.div_add_mod n g
    have hml := Nat.mod_lt n hg
    generalize n / g = low at hdm ⊢
    generalize n % g = rest at hdm hml ⊢
    have hP : low * g = g * low := Nat.mul_comm _ _
    have hP2 : (low + 1) * g = g * low + g := by rw [Nat.add_mul, hP]; omega
    by_cases h1 : g < 2 * rest
    · simp only [h1, decide_true, Bool.true_or, Bool.toNat_true]
      rw [hP2]; omega
    · by_cases h2 : g = 2 * rest
      · by_cases h3 : low % 2 = 1
        · have h2' : (g == 2 * rest) = true := by simpa using h2
          have h3' : (low % 2 == 1) = true := by simpa using h3
          simp only [h2', h3', Bool.and_self, Bool.or_true, Bool.toNat_true]
          rw [hP2]; omega
        · have h3' : (low % 2 == 1) = false := by simpa using h3
          simp only [h1, h3', decide_false, Bool.and_false, Bool.false_or, Bool.toNat_false, Nat.add_zero]
          rw [hP]; omega
      · have h2' : (g == 2 * rest) = false := by simpa using h2
        simp only [h1, h2', decide_false, Bool.false_and, Bool.false_or, Bool.toNat_false, Nat.add_zero]
        rw [hP]; omega
  · have hlt : n < 2 ^ (n.log2 + 1) := Nat.lt_log2_self
    rw [Nat.min_eq_right (by omega), Nat.one_shiftLeft]
    have hpow : 2 ^ (n.log2 + 2) = 2 * 2 ^ (n.log2 + 1) := by rw [Nat.pow_succ]; omega
    have hle : 2 ^ (n.log2 + 2) ≤ 2 ^ d := Nat.pow_le_pow_right (by omega) (by omega)
    have hdiv : n / 2 ^ (n.log2 + 2) = 0 := Nat.div_eq_of_lt (by omega)
    have hmod : n % 2 ^ (n.log2 + 2) = n := Nat.mod_eq_of_lt (by omega)
    have h1 : ¬ 2 ^ (n.log2 + 2) < 2 * n := by omega
    have h2 : (2 ^ (n.log2 + 2) == 2 * n) = false := by simp; omega
    simp only [hdiv, hmod, h1, h2, decide_false, Bool.false_and, Bool.false_or, Bool.toNat_false, Nat.add_zero, Nat.zero_mul]
    omega

/-! ### doubles -/

theorem binade_double : double.binade = 4503599627370496 := by decide
theorem inf_double : double.infRung = 9218868437227405312 := by decide
theorem sign_double : double.signWeight = 9223372036854775808 := by decide
theorem least_double : double.leastPlace = -1074 := by decide

def V (r : Nat) : Nat := VB 4503599627370496 r
/-- the unit of V in units of 2^-2148. -/
def pow2 (n : Nat) : Nat := 2 ^ n
def U : Nat := pow2 1074
theorem pow2_pos (n : Nat) : 0 < pow2 n := Nat.pow_pos (by omega)
theorem pow2_mul (q n : Nat) : 2 ^ q * pow2 n = 2 ^ (q + n) := (Nat.pow_add 2 q n).symm
theorem U_pos : 0 < U := pow2_pos 1074
theorem U_pow (q : Nat) : 2 ^ q * U = 2 ^ (q + 1074) := pow2_mul q 1074
theorem B_pos : 0 < 4503599627370496 := by omega

/-- R: the nearest rung, cut at infinity. -/
def Near (x R : Nat) : Prop := ∃ R0, NearB 4503599627370496 U x R0 ∧ R = min R0 9218868437227405312

theorem Near.mono {x y R S : Nat} (h : Near x R) (k : Near y S) (hxy : x ≤ y) : R ≤ S := by
  obtain ⟨R0, h0, rfl⟩ := h
  obtain ⟨S0, k0, rfl⟩ := k
  have := h0.mono B_pos U_pos k0 hxy
  omega

theorem Near.ge {x R S : Nat} (h : Near x R) (hx : V S * U ≤ x) (hS : S ≤ 9218868437227405312) : S ≤ R := by
  obtain ⟨R0, h0, rfl⟩ := h
  have := h0.ge B_pos U_pos hx
  omega

theorem Near.le {x R S : Nat} (h : Near x R) (hx : x ≤ V S * U) : R ≤ S := by
  obtain ⟨R0, h0, rfl⟩ := h
  have := h0.le B_pos U_pos hx
  omega

theorem Near.inf {x R : Nat} (h : Near x R) : R ≤ 9218868437227405312 := by
  obtain ⟨R0, _, rfl⟩ := h
  omega

theorem near_zero : Near 0 0 := by
  refine ⟨0, ⟨fun h => by omega, ?_, fun _ => rfl⟩, by omega⟩
  omega

/-- the digits that are kept, at the place 'last' (q places above the least), tell the nearest rung. -/
theorem near_kept {B u : Nat} (hB : 0 < B) (hBe : B % 2 = 0) (hu : 0 < u) (q k x : Nat) (hk : k ≤ 2 * B) (hx2 : x < 2 * B * (2 ^ q * u)) (hq : q = 0 ∨ B * (2 ^ q * u) ≤ x)
    (h1 : 2 * (k * (2 ^ q * u)) ≤ 2 * x + 2 ^ q * u) (h2 : 2 * x ≤ 2 * (k * (2 ^ q * u)) + 2 ^ q * u) (e1 : 2 * (k * (2 ^ q * u)) = 2 * x + 2 ^ q * u → k % 2 = 0) (e2 : 2 * x = 2 * (k * (2 ^ q * u)) + 2 ^ q * u → k % 2 = 0) :
    NearB B u x (q * B + k) := by
  have hT : 0 < 2 ^ q * u := Nat.mul_pos (Nat.pow_pos (by omega)) hu
  have hev : k % 2 = 0 → (q * B + k) % 2 = 0 := by
    intro h
    have : (q * B) % 2 = 0 := by rw [Nat.mul_mod, hBe]; simp
    omega
  have hkB : q = 0 ∨ B ≤ k := by
    rcases hq with hq | hq
    · exact Or.inl hq
    · by_cases h : B ≤ k
      · exact Or.inr h
      · exfalso
        have h3 : (k + 1) * (2 ^ q * u) ≤ B * (2 ^ q * u) := Nat.mul_le_mul_right _ (by omega)
        rw [Nat.add_mul, Nat.one_mul] at h3
        omega
  have hV : VB B (q * B + k) * u = k * (2 ^ q * u) := by rw [VB_kept hB q k hk hkB, Nat.mul_assoc]
  have hT2 : ∀ j, (j + 1) * (2 ^ q * u) = j * (2 ^ q * u) + 2 ^ q * u := fun j => by rw [Nat.add_mul, Nat.one_mul]
  refine ⟨fun hpos => ?_, ?_⟩
  · by_cases hlow : q = 0 ∨ B ≤ k - 1
    · have hk1 : 0 < k := by
        rcases hlow with h | h
        · subst h; omega
        · omega
      have hV1 : VB B (q * B + k - 1) * u = (k - 1) * (2 ^ q * u) := by
        rw [show q * B + k - 1 = q * B + (k - 1) by omega, VB_kept hB q (k - 1) (by omega) hlow, Nat.mul_assoc]
      have hT3 := hT2 (k - 1)
      rw [show k - 1 + 1 = k by omega] at hT3
      rw [hV, hV1]
      exact ⟨by omega, fun e => hev (e1 (by omega))⟩
    · have hkB2 : k = B := by omega
      have hx3 : B * (2 ^ q * u) ≤ x := by
        rcases hq with hq | hq
        · exact absurd (Or.inl hq) hlow
        · exact hq
      have hlt : VB B (q * B + k - 1) * u < VB B (q * B + k) * u := Nat.mul_lt_mul_of_pos_right (VB_lt hB (by omega)) hu
      rw [hV, hkB2] at hlt
      rw [hV, hkB2]
      exact ⟨by omega, fun e => by omega⟩
  · by_cases hlt : k < 2 * B
    · have hV1 : VB B (q * B + k + 1) * u = (k + 1) * (2 ^ q * u) := by
        rw [show q * B + k + 1 = q * B + (k + 1) by omega, VB_kept hB q (k + 1) (by omega) (by omega), Nat.mul_assoc]
      rw [hV, hV1, hT2]
      exact ⟨by omega, fun e => hev (e2 (by omega))⟩
    · have hk2 : k = 2 * B := by omega
      have hlt2 : VB B (q * B + k) * u < VB B (q * B + k + 1) * u := Nat.mul_lt_mul_of_pos_right (VB_succ hB _) hu
      rw [hV, hk2] at hlt2
      rw [hV, hk2]
      exact ⟨by omega, fun e => by omega⟩

theorem nearest_eq (neg : Bool) (mag : Nat) (place : Int) (hm : mag ≠ 0) : double.nearest neg mag place =
    double.word neg (min ((max (place + mag.log2 - 52) (-1074) - (-1074)).toNat * 4503599627370496 +
      Toward.even.cut neg (mag <<< (place - max (place + mag.log2 - 52) (-1074)).toNat) (max (place + mag.log2 - 52) (-1074) - place).toNat) 9218868437227405312) := by
  unfold Format.nearest
  rw [if_neg hm, least_double, binade_double, inf_double]
  rfl

theorem nearest_near (neg : Bool) (mag : Nat) (place : Int) (hp : -2148 ≤ place) :
    ∃ R, double.nearest neg mag place = double.word neg R ∧ Near (mag * 2 ^ (place + 2148).toNat) R := by
  by_cases hm : mag = 0
  · subst hm
    exact ⟨0, by unfold Format.nearest; rw [if_pos rfl], by rw [Nat.zero_mul]; exact near_zero⟩
  refine ⟨_, nearest_eq neg mag place hm, _, ?_, rfl⟩
  have hlo : 2 ^ mag.log2 ≤ mag := Nat.log2_self_le hm
  have hhi : mag < 2 ^ (mag.log2 + 1) := Nat.lt_log2_self
  generalize mag.log2 = e at hlo hhi ⊢
  obtain ⟨last, hlast⟩ : ∃ last : Int, last = max (place + e - 52) (-1074) := ⟨_, rfl⟩
  rw [← hlast]
  have hl1 : -1074 ≤ last := by omega
  have hl2 : place + e - 52 ≤ last := by omega
  have hl3 : last = -1074 ∨ last = place + e - 52 := by omega
  clear hlast
  obtain ⟨q, hq⟩ : ∃ q, q = (last - -1074).toNat := ⟨_, rfl⟩
  rw [← hq]
  obtain ⟨P, hP⟩ : ∃ P, P = (place + 2148).toNat := ⟨_, rfl⟩
  rw [← hP]
  have hT : 2 ^ q * U = 2 ^ (q + 1074) := U_pow q
  have hU := U_pos
  have hTp : 0 < 2 ^ (q + 1074) := Nat.pow_pos (by omega)
  have hPp : 0 < 2 ^ P := Nat.pow_pos (by omega)
  -- the size of the number against the unit
  have hup : mag * 2 ^ P < 2 * 4503599627370496 * 2 ^ (q + 1074) := by
    have h1 : mag * 2 ^ P < 2 ^ (e + 1) * 2 ^ P := Nat.mul_lt_mul_of_pos_right hhi hPp
    have h2 : 2 ^ (e + 1) * 2 ^ P ≤ 2 ^ 53 * 2 ^ (q + 1074) := by
      rw [← Nat.pow_add, ← Nat.pow_add]; exact Nat.pow_le_pow_right (by omega) (by omega)
    have h3 : (2 : Nat) ^ 53 = 2 * 4503599627370496 := by decide
    rw [h3] at h2
    omega
  have hdn : q = 0 ∨ 4503599627370496 * 2 ^ (q + 1074) ≤ mag * 2 ^ P := by
    by_cases h0 : q = 0
    · exact Or.inl h0
    · right
      have h1 : 2 ^ e * 2 ^ P ≤ mag * 2 ^ P := Nat.mul_le_mul_right _ hlo
      have h2 : 2 ^ 52 * 2 ^ (q + 1074) = 2 ^ e * 2 ^ P := by
        rw [← Nat.pow_add, ← Nat.pow_add, show 52 + (q + 1074) = e + P by omega]
      have h3 : (2 : Nat) ^ 52 = 4503599627370496 := by decide
      rw [h3] at h2
      omega
  -- the digits that are kept
  obtain ⟨k, hk⟩ : ∃ k, k = Toward.even.cut neg (mag <<< (place - last).toNat) (last - place).toNat := ⟨_, rfl⟩
  rw [← hk]
  have hkept : 2 * (k * 2 ^ (q + 1074)) ≤ 2 * (mag * 2 ^ P) + 2 ^ (q + 1074) ∧ 2 * (mag * 2 ^ P) ≤ 2 * (k * 2 ^ (q + 1074)) + 2 ^ (q + 1074) ∧
      (2 * (k * 2 ^ (q + 1074)) = 2 * (mag * 2 ^ P) + 2 ^ (q + 1074) → k % 2 = 0) ∧ (2 * (mag * 2 ^ P) = 2 * (k * 2 ^ (q + 1074)) + 2 ^ (q + 1074) → k % 2 = 0) := by
    have hc := cut_near neg (mag <<< (place - last).toNat) (last - place).toNat
    rw [← hk] at hc
    by_cases hpl : last ≤ place
    · have hd : (last - place).toNat = 0 := by omega
      rw [hd, Nat.pow_zero, Nat.mul_one, Nat.shiftLeft_eq] at hc
      have hkn : k = mag * 2 ^ (place - last).toNat := by omega
      have hx : mag * 2 ^ P = k * 2 ^ (q + 1074) := by
        rw [hkn, Nat.mul_assoc, ← Nat.pow_add, show (place - last).toNat + (q + 1074) = P by omega]
      rw [hx]
      exact ⟨by omega, by omega, fun h => by omega, fun h => by omega⟩
    · have hs : (place - last).toNat = 0 := by omega
      rw [hs, Nat.shiftLeft_zero] at hc
      have hTd : 2 ^ (q + 1074) = 2 ^ (last - place).toNat * 2 ^ P := by
        rw [← Nat.pow_add, show (last - place).toNat + P = q + 1074 by omega]
      rw [hTd]
      generalize 2 ^ (last - place).toNat = g at hc
      generalize 2 ^ P = p at hPp
      obtain ⟨c1, c2, c3, c4⟩ := hc
      have m1 : 2 * (k * (g * p)) = (2 * (k * g)) * p := by rw [← Nat.mul_assoc, ← Nat.mul_assoc, ← Nat.mul_assoc]
      have m2 : 2 * (mag * p) + g * p = (2 * mag + g) * p := by rw [Nat.add_mul, Nat.mul_assoc]
      have m3 : 2 * (mag * p) = (2 * mag) * p := by rw [Nat.mul_assoc]
      have m4 : 2 * (k * g) * p + g * p = (2 * (k * g) + g) * p := by rw [Nat.add_mul]
      rw [m1, m2, m3, m4]
      exact ⟨Nat.mul_le_mul_right _ c1, Nat.mul_le_mul_right _ c2, fun h => c3 (Nat.eq_of_mul_eq_mul_right hPp h), fun h => c4 (Nat.eq_of_mul_eq_mul_right hPp h)⟩
  obtain ⟨k1, k2, k3, k4⟩ := hkept
  have hk2B : k ≤ 2 * 4503599627370496 := by
    by_cases h : k ≤ 2 * 4503599627370496
    · exact h
    · exfalso
      have h1 : (2 * 4503599627370496 + 1) * 2 ^ (q + 1074) ≤ k * 2 ^ (q + 1074) := Nat.mul_le_mul_right _ (by omega)
      rw [Nat.add_mul, Nat.one_mul] at h1
      omega
  exact near_kept B_pos (by decide) hU q k (mag * 2 ^ P) hk2B (by rw [hT]; exact hup) (by rw [hT]; exact hdn) (by rw [hT]; exact k1) (by rw [hT]; exact k2) (by rw [hT]; exact k3) (by rw [hT]; exact k4)

end Go.Proofs.Qxb6600241a.Fl
