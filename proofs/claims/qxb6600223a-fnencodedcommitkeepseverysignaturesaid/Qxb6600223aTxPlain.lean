/-
  THE PLAIN LAW BEHIND 'TxBytes': sums of lengths. No Go in sight.
-/
namespace Go.Proofs.Qxb6600223a.Tx

def sumL (L : Nat → Nat) : Nat → Nat
  | 0 => 0
  | k + 1 => sumL L k + L k

theorem sumL_zero (L : Nat → Nat) : sumL L 0 = 0 := rfl
theorem sumL_succ (L : Nat → Nat) (k : Nat) : sumL L (k + 1) = sumL L k + L k := rfl

theorem sumL_mono (L : Nat → Nat) {k n : Nat} (h : k ≤ n) : sumL L k ≤ sumL L n := by
  induction h with
  | refl => omega
  | step _ ih => rw [sumL_succ]; omega

theorem le_sumL (L : Nat → Nat) {k n : Nat} (h : k < n) : L k ≤ sumL L n := by
  have h1 := sumL_mono L (k := k + 1) (n := n) h
  rw [sumL_succ] at h1
  omega

theorem sumL_congr {L M : Nat → Nat} {n : Nat} (h : ∀ i, i < n → L i = M i) : sumL L n = sumL M n := by
  induction n with
  | zero => rfl
  | succ n ih => rw [sumL_succ, sumL_succ, ih (fun i hi => h i (by omega)), h n (by omega)]

/-- the first summand taken off. -/
theorem sumL_head (L : Nat → Nat) (n : Nat) : sumL L (n + 1) = L 0 + sumL (fun i => L (i + 1)) n := by
  induction n with
  | zero => simp [sumL]
  | succ n ih => rw [sumL_succ, ih, sumL_succ]; omega

theorem sumL_rev (L : Nat → Nat) (n : Nat) : sumL (fun j => L (n - 1 - j)) n = sumL L n := by
  induction n generalizing L with
  | zero => rfl
  | succ n ih =>
    rw [sumL_head L n, sumL_succ]
    have h1 : sumL (fun j => L (n + 1 - 1 - j)) n = sumL (fun j => (fun i => L (i + 1)) (n - 1 - j)) n :=
      sumL_congr fun i hi => by
        show L (n + 1 - 1 - i) = L (n - 1 - i + 1)
        congr 1; omega
    have h2 := ih (fun i => L (i + 1))
    rw [h1, h2]
    show _ + L (n + 1 - 1 - n) = _
    rw [show n + 1 - 1 - n = 0 by omega]
    omega

/-- all of the first k are empty. -/
def allZ (L : Nat → Nat) (k : Nat) : Bool := sumL L k == 0

theorem allZ_zero (L : Nat → Nat) : allZ L 0 = true := rfl
theorem allZ_succ_pos (L : Nat → Nat) (k : Nat) (h : 0 < L k) : allZ L (k + 1) = false := by
  simp only [allZ, sumL_succ]; simp; omega
theorem allZ_succ_zero (L : Nat → Nat) (k : Nat) (h : L k = 0) : allZ L (k + 1) = allZ L k := by
  simp only [allZ, sumL_succ, h]; simp

theorem all_same (L : Nat → Nat) (m : Nat) : (((sumL L m : Nat) : Int) == 0) == allZ L m := by
  unfold allZ
  by_cases h : sumL L m = 0
  · rw [h]; rfl
  · have h1 : (sumL L m == 0) = false := by simpa using h
    have h2 : (((sumL L m : Nat) : Int) == 0) = false := by simp; omega
    rw [h1, h2]; rfl

/-- do the lengths sum to at most 2^20? -/
def okB (n : Nat) (L : Nat → Nat) : Bool := decide (n + sumL L n ≤ 1048576)

theorem okB_true {n : Nat} {L : Nat → Nat} (h : okB n L = true) : n + sumL L n ≤ 1048576 := of_decide_eq_true h
theorem okB_yes {n : Nat} {L : Nat → Nat} (h : n + sumL L n ≤ 1048576) : okB n L = true := decide_eq_true h
theorem okB_no {n : Nat} {L : Nat → Nat} (h : ¬ n + sumL L n ≤ 1048576) : okB n L = false := decide_eq_false h

/-- what txBudget answers. -/
def budget (n : Nat) (L : Nat → Nat) : Int := if 24 * n + sumL L n ≤ 1048576 then ((24 * n + sumL L n : Nat) : Int) else -1

end Go.Proofs.Qxb6600223a.Tx
