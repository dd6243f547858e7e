/-
  THE PLAIN LAW BEHIND 'mostDistinct' AND 'mdCost': no Go in sight.
  'pw L' = 256^L; 'sm L' = the sum of pw i, i < L; 'cs o L' = the sum of pw i * (i + o), i < L.
-/
namespace Go.Proofs.Qxb6600223a.Md

def pw : Nat → Int
  | 0 => 1
  | L + 1 => pw L * 256

def sm : Nat → Int
  | 0 => 0
  | L + 1 => sm L + pw L

def cs (o : Int) : Nat → Int
  | 0 => 0
  | L + 1 => cs o L + pw L * ((L : Int) + o)

theorem pw_succ (L : Nat) : pw (L + 1) = pw L * 256 := rfl
theorem sm_succ (L : Nat) : sm (L + 1) = sm L + pw L := rfl
theorem cs_succ (o : Int) (L : Nat) : cs o (L + 1) = cs o L + pw L * ((L : Int) + o) := rfl

theorem pw_pos (L : Nat) : 1 ≤ pw L := by
  induction L with
  | zero => simp [pw]
  | succ L ih => rw [pw_succ]; omega

theorem sm_nonneg (L : Nat) : 0 ≤ sm L := by
  induction L with
  | zero => simp [sm]
  | succ L ih => rw [sm_succ]; have := pw_pos L; omega

theorem pw_mono (L : Nat) : pw L ≤ pw (L + 1) := by rw [pw_succ]; have := pw_pos L; omega

theorem sm_lt_pw (L : Nat) : sm L < pw L := by
  induction L with
  | zero => simp [sm, pw]
  | succ L ih => rw [sm_succ, pw_succ]; have := pw_pos L; omega

theorem pw_7 : pw 7 = 72057594037927936 := by decide

theorem pw_le_7 (L : Nat) (h : L ≤ 7) : pw L ≤ 72057594037927936 := by
  have : L = 0 ∨ L = 1 ∨ L = 2 ∨ L = 3 ∨ L = 4 ∨ L = 5 ∨ L = 6 ∨ L = 7 := by omega
  rcases this with rfl | rfl | rfl | rfl | rfl | rfl | rfl | rfl <;> decide

theorem prod_nonneg (o : Int) (L : Nat) (ho : 0 ≤ o) : 0 ≤ pw L * ((L : Int) + o) :=
  Int.mul_nonneg (by have := pw_pos L; omega) (by omega)

theorem cs_nonneg (o : Int) (ho : 0 ≤ o) (L : Nat) : 0 ≤ cs o L := by
  induction L with
  | zero => simp [cs]
  | succ L ih => rw [cs_succ]; have := prod_nonneg o L ho; omega

/-- the costs grow with the count of lengths. -/
theorem cs_mono (o : Int) (ho : 0 ≤ o) (L M : Nat) (h : L ≤ M) : cs o L ≤ cs o M := by
  induction h with
  | refl => omega
  | step _ ih => rw [cs_succ]; rename_i m _; have := prod_nonneg o m ho; omega

/-- 'fits': a round that does not leave takes a whole length, and what it takes fits. -/
theorem fits {q p s : Int} (hs : 0 < s) (h : ¬ q / s < p) : p * s ≤ q := by
  have h1 : p ≤ q / s := by omega
  exact Int.le_trans (Int.mul_le_mul_of_nonneg_right h1 (by omega)) (Int.ediv_mul_le q (by omega))

/-- every count that the sum of the first L costs at least: o times it, and (o = 0) it less one. -/
theorem cs_ge_sm (o : Int) (L : Nat) : sm L * o ≤ cs o L := by
  induction L with
  | zero => simp [sm, cs]
  | succ L ih =>
    rw [sm_succ, cs_succ, Int.add_mul]
    have h : pw L * o ≤ pw L * ((L : Int) + o) := Int.mul_le_mul_of_nonneg_left (by omega) (by have := pw_pos L; omega)
    omega

theorem cs_zero_ge (L : Nat) : sm L ≤ cs 0 L + 1 := by
  induction L with
  | zero => simp [sm, cs]
  | succ L ih =>
    rw [sm_succ, cs_succ]
    cases L with
    | zero => simp [sm, cs, pw]
    | succ L =>
      have h : pw (L + 1) * 1 ≤ pw (L + 1) * (((L + 1 : Nat) : Int) + 0) := Int.mul_le_mul_of_nonneg_left (by omega) (by have := pw_pos (L + 1); omega)
      omega

/-- a round that does not leave is one of the first seven. -/
theorem le6 {n o : Int} {L : Nat} (hL : L ≤ 7) (ho : 0 ≤ o) (hc : 0 ≤ cs o L) (hn : n ≤ 72057594037927936) (hm : pw L * ((L : Int) + o) ≤ n - cs o L) : L ≤ 6 := by
  by_cases h : L = 7
  · subst h
    rw [pw_7] at hm
    have : (72057594037927936 : Int) * 7 ≤ 72057594037927936 * (((7 : Nat) : Int) + o) := Int.mul_le_mul_of_nonneg_left (by omega) (by omega)
    omega
  · omega

/-- What 'mostDistinct' leaves at: the length L, and how many of that length still fit. -/
structure Left (n o : Int) (L : Nat) (q : Int) : Prop where
  le7 : L ≤ 7
  size : 0 < (L : Int) + o
  fit : cs o L ≤ n
  quot : q = (n - cs o L) / ((L : Int) + o)
  lt : q < pw L

theorem Left.nonneg {n o : Int} {L : Nat} {q : Int} (h : Left n o L q) : 0 ≤ q := by
  rw [h.quot]; exact Int.ediv_nonneg (by have := h.fit; omega) (by have := h.size; omega)

theorem Left.mul_le {n o : Int} {L : Nat} {q : Int} (h : Left n o L q) : q * ((L : Int) + o) ≤ n - cs o L := by
  rw [h.quot]; exact Int.ediv_mul_le _ (by have := h.size; omega)

theorem Left.lt_mul {n o : Int} {L : Nat} {q : Int} (h : Left n o L q) : n - cs o L < (q + 1) * ((L : Int) + o) := by
  rw [h.quot]; exact Int.lt_ediv_add_one_mul_self _ h.size

/-- the answer is at most n + 1 where there is no overhead. -/
theorem Left.bound0 {n : Int} {L : Nat} {q : Int} (h : Left n 0 L q) : sm L + q ≤ n + 1 := by
  have h1 := cs_zero_ge L
  have h2 := h.mul_le
  have h3 := h.nonneg
  have h4 : q * 1 ≤ q * ((L : Int) + 0) := Int.mul_le_mul_of_nonneg_left (by have := h.size; omega) h3
  omega

/-- the answer is at most n / o where o is positive. -/
theorem Left.bound {n o : Int} {L : Nat} {q : Int} (h : Left n o L q) (ho : 0 < o) : sm L + q ≤ n / o := by
  have h1 := cs_ge_sm o L
  have h2 := h.mul_le
  have h3 := h.nonneg
  have h4 : q * o ≤ q * ((L : Int) + o) := Int.mul_le_mul_of_nonneg_left (by omega) h3
  rw [Int.le_ediv_iff_mul_le ho, Int.add_mul]
  omega

/-! ### mdCost -/

theorem sm_mono (L M : Nat) (h : L ≤ M) : sm L ≤ sm M := by
  induction h with
  | refl => omega
  | step _ ih => rw [sm_succ]; rename_i m _; have := pw_pos m; omega

theorem sm_strict (L M : Nat) (h : L < M) : sm L < sm M := by
  have h1 := sm_mono (L + 1) M h
  rw [sm_succ] at h1
  have := pw_pos L
  omega

/-- the cost of k strings, L the length of the last of them (or the next length). -/
def fin (k o : Int) (L : Nat) : Int := cs o L + (k - sm L) * ((L : Int) + o)

theorem fin_ge (k o : Int) (L : Nat) (ho : 0 ≤ o) (hk : sm L ≤ k) : cs o L ≤ fin k o L := by
  unfold fin
  have : 0 ≤ (k - sm L) * ((L : Int) + o) := Int.mul_nonneg (by omega) (by omega)
  omega

/-- a whole length taken, and nothing left: that was the last one. -/
theorem fin_done {k o : Int} {L i : Nat} (hi : i < L) (hk : sm L ≤ k) (he : k = sm (i + 1)) : cs o i + pw i * ((i : Int) + o) = fin k o L := by
  have hL : i + 1 = L := by
    by_cases h : i + 1 < L
    · have := sm_strict (i + 1) L h; omega
    · omega
  subst hL
  unfold fin
  rw [← cs_succ, ← he, Int.sub_self, Int.zero_mul, Int.add_zero]

theorem zero_of_sm {L : Nat} (h : sm L ≤ 0) : L = 0 := by
  by_cases h0 : L = 0
  · exact h0
  · have := sm_strict 0 L (by omega); simp [sm] at this; omega

theorem fin_zero {k o : Int} {L : Nat} (hk1 : sm L ≤ k) (hk : k ≤ 0) : fin k o L = 0 := by
  have hL := zero_of_sm (L := L) (by omega)
  subst hL
  simp only [sm] at hk1
  have : k = 0 := by omega
  subst this
  simp [fin, cs, sm]

theorem Left.cost {n o : Int} {L : Nat} {q : Int} (h : Left n o L q) : fin (sm L + q) o L ≤ n := by
  unfold fin
  have := h.mul_le
  rw [show sm L + q - sm L = q by omega]
  omega

theorem Left.cost1 {n o : Int} {L : Nat} {q : Int} (h : Left n o L q) : n < fin (sm L + q + 1) o L ∧ fin (sm L + q + 1) o L ≤ n + ((L : Int) + o) := by
  unfold fin
  have h1 := h.lt_mul
  have h2 := h.mul_le
  rw [show sm L + q + 1 - sm L = q + 1 by omega]
  rw [Int.add_mul] at *
  omega

end Go.Proofs.Qxb6600223a.Md
