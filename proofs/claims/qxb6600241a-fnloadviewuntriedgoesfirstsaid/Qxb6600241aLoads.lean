/-
  THE PLAIN LAW BEHIND 'FnLoadViewUntriedGoesFirst': a load with more calls in flight, raised by 1.25, is not below one with fewer; and '+', '*' on floats as one law, a NaN's bits asked of the tape.
-/
import Derived.Test.Qxb6600241aScore
import Derived.WalkKit
import Derived.Laws.FloatArith
namespace Go.Proofs.Qxb6600241a.LvW
open Go.RowKit Ieee Fl

/-! ### a float operation, valid or not -/

/-- the bits that the operation leaves: the result's, or a NaN's off the tape. -/
def fV (op : BinOp) (x y : Nat) (w : World) : Nat :=
  match floatBits op .f64 x y with
  | some r => r
  | none => (Question.nanBits .f64 x y).cut (w.tape w.drawn (.nanBits .f64 x y))

/-- the world behind it: as it was, or one draw on. -/
def fW (op : BinOp) (x y : Nat) (w : World) : World :=
  match floatBits op .f64 x y with
  | some _ => w
  | none => w.drew

theorem run_mul (P : Program) (t : TypeId) (x y : Nat) (w : World) : (binOp .mul t (.float .f64 x) (.float .f64 y)).run P w = .ok (.float .f64 (fV .mul x y w)) (fW .mul x y w) := by
  cases h : floatBits .mul .f64 x y with
  | some r =>
    rw [run_float_arith w .mul t .f64 x y r h]
    simp [fV, fW, h]
  | none =>
    have h' : FloatKind.f64.format.mul x y = none := h
    simp [binOp, Op.floatArith, h', fV, fW, h, Question.forced]

theorem run_add (P : Program) (t : TypeId) (x y : Nat) (w : World) : (binOp .add t (.float .f64 x) (.float .f64 y)).run P w = .ok (.float .f64 (fV .add x y w)) (fW .add x y w) := by
  cases h : floatBits .add .f64 x y with
  | some r =>
    rw [run_float_arith w .add t .f64 x y r h]
    simp [fV, fW, h]
  | none =>
    have h' : FloatKind.f64.format.add x y = none := h
    simp [binOp, Op.floatArith, h', fV, fW, h, Question.forced]

theorem fW_cell (op : BinOp) (x y : Nat) (w : World) (a : Addr) : (fW op x y w).cell? a = w.cell? a := by
  unfold fW; split <;> rfl
theorem fW_frozen (op : BinOp) (x y : Nat) (w : World) (a : Addr) : (fW op x y w).frozen? a = w.frozen? a := by
  unfold fW; split <;> rfl
theorem fW_size (op : BinOp) (x y : Nat) (w : World) : (fW op x y w).heap.size = w.heap.size := by
  unfold fW; split <;> rfl
theorem fW_below {B : Nat} {a : World} (op : BinOp) (x y : Nat) {w : World} (h : Below B a w) : Below B a (fW op x y w) := by
  unfold fW; split
  · exact h
  · exact h.drew

theorem nan_cut (x y t : Nat) : 9218868437227405312 < rung ((Question.nanBits .f64 x y).cut t) := by
  show 9218868437227405312 < rung ((t % 2) * 2 ^ 63 + 0x7ff0000000000000 + 1 + (t / 2) % (2 ^ 52 - 1))
  unfold rung
  have hr : (t / 2) % (2 ^ 52 - 1) < 4503599627370495 := Nat.mod_lt _ (by omega)
  generalize (t / 2) % (2 ^ 52 - 1) = r at hr ⊢
  have hb : t % 2 = 0 ∨ t % 2 = 1 := by omega
  rcases hb with hb | hb <;> rw [hb] <;> omega

theorem fV_mul (x y : Nat) : (∃ r, double.mul x y = some r ∧ ∀ w, fV .mul x y w = r) ∨ (double.mul x y = none ∧ ∀ w, 9218868437227405312 < rung (fV .mul x y w)) := by
  cases h : double.mul x y with
  | some r => exact Or.inl ⟨r, rfl, fun w => by have h' : floatBits .mul .f64 x y = some r := h; simp [fV, h']⟩
  | none => exact Or.inr ⟨rfl, fun w => by have h' : floatBits .mul .f64 x y = none := h; simp only [fV, h']; exact nan_cut _ _ _⟩

theorem fV_add (x y : Nat) : (∃ r, double.add x y = some r ∧ ∀ w, fV .add x y w = r) ∨ (double.add x y = none ∧ ∀ w, 9218868437227405312 < rung (fV .add x y w)) := by
  cases h : double.add x y with
  | some r => exact Or.inl ⟨r, rfl, fun w => by have h' : floatBits .add .f64 x y = some r := h; simp [fV, h']⟩
  | none => exact Or.inr ⟨rfl, fun w => by have h' : floatBits .add .f64 x y = none := h; simp only [fV, h']; exact nan_cut _ _ _⟩

theorem fV_mul_some {x y r : Nat} (h : double.mul x y = some r) (w : World) : fV .mul x y w = r := by
  have h' : floatBits .mul .f64 x y = some r := h
  simp [fV, h']
theorem fV_add_some {x y r : Nat} (h : double.add x y = some r) (w : World) : fV .add x y w = r := by
  have h' : floatBits .add .f64 x y = some r := h
  simp [fV, h']
theorem fV_mul_none {x y : Nat} (h : double.mul x y = none) (w : World) : 9218868437227405312 < rung (fV .mul x y w) := by
  have h' : floatBits .mul .f64 x y = none := h
  simp only [fV, h']; exact nan_cut _ _ _
theorem fV_add_none {x y : Nat} (h : double.add x y = none) (w : World) : 9218868437227405312 < rung (fV .add x y w) := by
  have h' : floatBits .add .f64 x y = none := h
  simp only [fV, h']; exact nan_cut _ _ _

/-! ### 'float64(n)', n not negative -/

theorem ofInt_near (n : Int) (h : 0 ≤ n) : NN (floatOfInt .f64 n) ∧ Near (n.toNat * 2 ^ (0 + 2148 : Int).toNat) (rung (floatOfInt .f64 n)) := by
  obtain ⟨R, hR, hN⟩ := nearest_near false n.natAbs 0 (by omega)
  have e : floatOfInt .f64 n = double.word false R := by
    rw [← hR]
    show double.nearest (decide (n < 0)) n.natAbs 0 = _
    rw [decide_eq_false (by omega)]
  have hw := near_word (neg := false) hN (fun hs => by cases hs)
  rw [e, hw.2]
  rw [show n.natAbs = n.toNat by omega] at hN
  exact ⟨hw.1, hN⟩

theorem ofInt_mono {n m : Int} (h0 : 0 ≤ n) (h : n ≤ m) : rung (floatOfInt .f64 n) ≤ rung (floatOfInt .f64 m) :=
  (ofInt_near n h0).2.mono (ofInt_near m (by omega)).2 (Nat.mul_le_mul_right _ (by omega))

theorem ofInt_zero : rung (floatOfInt .f64 0) = 0 := by
  have h := (ofInt_near 0 (by omega)).2
  have e : ((0 : Int).toNat) = 0 := rfl
  rw [e, Nat.zero_mul] at h
  have := h.le (S := 0) (Nat.zero_le _)
  omega

theorem powK (K a b : Nat) (h : K = a + b) : 2 ^ K = pow2 a * pow2 b := by subst h; exact Nat.pow_add 2 a b
theorem pow2_2148 : 2 ^ (0 + 2148 : Int).toNat = pow2 1074 * U := by unfold U; exact powK _ 1074 1074 (by omega)

theorem ofInt_pos {n : Int} (h : 0 < n) : rung (floatOfInt .f64 n) ≠ 0 := by
  have hN := (ofInt_near n (by omega)).2
  have h1 : V 1 * U ≤ n.toNat * 2 ^ (0 + 2148 : Int).toNat := by
    rw [pow2_2148]
    have v1 : V 1 = 1 := VB_low (by omega)
    have hp := pow2_pos 1074
    rw [v1, ← Nat.mul_assoc]
    refine Nat.mul_le_mul_right _ ?_
    exact Nat.mul_pos (by omega) hp
  have := hN.ge (S := 1) h1 (by omega)
  omega

theorem ofInt_fin {n : Int} (h0 : 0 ≤ n) (h : n ≤ 9223372036854775807) : rung (floatOfInt .f64 n) < 9218868437227405312 := by
  have hN := (ofInt_near n h0).2
  have h11 : pow2 11 = 2048 := by decide
  have hp := pow2_sum 1085 11 1074 2048 (by omega) h11
  have hv := V_at 1085 4886405595696988160 4503599627370496 (by omega) (by omega) (by omega)
  rw [hp] at hv
  have := hN.le (S := 4886405595696988160 + 4503599627370496) (by
    rw [hv, pow2_2148, ← Nat.mul_assoc]
    refine Nat.mul_le_mul_right _ ?_
    rw [← Nat.mul_assoc]
    exact Nat.mul_le_mul_right _ (by omega))
  omega

/-! ### the two facts that the tests hang on -/

/-- no number that is not negative, raised by 1.25, is below itself. -/
theorem grow_fact {x : Nat} (hx : NN x) (w : World) : (FloatKind.f64.format.order (fV .mul x 4608308318706860032 w) x == some .lt) = false := by
  obtain ⟨t, ht, nt, gt⟩ := grow_ge hx
  rw [fV_mul_some ht]
  show (double.order t x == some .lt) = false
  rw [order_nn nt hx]
  have : compare (rung t) (rung x) ≠ .lt := fun h => by have := Nat.compare_eq_lt.1 h; omega
  simpa using this

/-- with more calls in flight the product is not less. -/
theorem prod_cases {typ : Nat} (ht : NN typ) {n m : Int} (h0 : 0 ≤ n) (h : n ≤ m) (hm : m ≤ 9223372036854775807) :
    double.mul typ (floatOfInt .f64 n) = none ∨ ∃ a b, double.mul typ (floatOfInt .f64 n) = some a ∧ double.mul typ (floatOfInt .f64 m) = some b ∧ NN a ∧ NN b ∧ rung a ≤ rung b := by
  have fn := (ofInt_near n h0).1
  have fm := (ofInt_near m (by omega)).1
  have hle := ofInt_mono h0 h
  by_cases hi : rung typ < 9218868437227405312
  · right
    obtain ⟨a, ha, na, ea⟩ := mul_fin ht fn hi (ofInt_fin h0 (by omega))
    obtain ⟨b, hb, nb, eb⟩ := mul_fin ht fm hi (ofInt_fin (by omega) hm)
    exact ⟨a, b, ha, hb, na, nb, ea.mono eb (Nat.mul_le_mul_left _ (V_le hle))⟩
  · have ei : rung typ = 9218868437227405312 := by have := ht.le; omega
    by_cases hz : n = 0
    · left
      subst hz
      exact mul_nan ei ofInt_zero
    · right
      obtain ⟨a, ha, na, ea⟩ := mul_inf ht fn ei (ofInt_pos (by omega))
      obtain ⟨b, hb, nb, eb⟩ := mul_inf ht fm ei (ofInt_pos (by omega))
      exact ⟨a, b, ha, hb, na, nb, by rw [ea, eb]; exact Nat.le_refl _⟩

theorem sum_cases {lat a b : Nat} (hl : NN lat) (na : NN a) (nb : NN b) (hab : rung a ≤ rung b) :
    ∃ p q, double.add lat a = some p ∧ double.add lat b = some q ∧ NN p ∧ NN q ∧ rung p ≤ rung q := by
  by_cases hi : rung lat < 9218868437227405312 ∧ rung b < 9218868437227405312
  · obtain ⟨p, hp, np, ep⟩ := add_fin hl na hi.1 (by omega)
    obtain ⟨q, hq, nq, eq⟩ := add_fin hl nb hi.1 hi.2
    exact ⟨p, q, hp, hq, np, nq, ep.mono eq (Nat.mul_le_mul_right _ (Nat.add_le_add_left (V_le hab) _))⟩
  · obtain ⟨q, hq, nq, eq⟩ := add_inf hl nb (by have := hl.le; have := nb.le; omega)
    by_cases hi2 : rung lat < 9218868437227405312 ∧ rung a < 9218868437227405312
    · obtain ⟨p, hp, np, _⟩ := add_fin hl na hi2.1 hi2.2
      exact ⟨p, q, hp, hq, np, nq, by rw [eq]; exact np.le⟩
    · obtain ⟨p, hp, np, _⟩ := add_inf hl na (by have := hl.le; have := na.le; omega)
      exact ⟨p, q, hp, hq, np, nq, by rw [eq]; exact np.le⟩

/-- the load with more calls in flight, raised by 1.25, is not below the load with fewer. -/
theorem load_fact {lat typ : Nat} (hl : NN lat) (ht : NN typ) {n m : Int} (h0 : 0 ≤ n) (h : n ≤ m) (hm : m ≤ 9223372036854775807) (w1 w2 w3 w4 w5 : World) :
    (FloatKind.f64.format.order (fV .mul (fV .add lat (fV .mul typ (floatOfInt .f64 m) w1) w2) 4608308318706860032 w3) (fV .add lat (fV .mul typ (floatOfInt .f64 n) w4) w5) == some .lt) = false := by
  show (double.order _ _ == some .lt) = false
  rcases prod_cases ht h0 h hm with hn | ⟨a, b, ha, hb, na, nb, hab⟩
  · have h1 := fV_mul_none hn w4
    have h2 := fV_add_none (add_nan_right (x := lat) h1) w5
    rw [order_nan_right h2]
    rfl
  · obtain ⟨p, q, hp, hq, np, nq, hpq⟩ := sum_cases hl na nb hab
    rw [fV_mul_some ha, fV_mul_some hb, fV_add_some hp, fV_add_some hq]
    obtain ⟨t, ht', nt, gt⟩ := grow_ge nq
    rw [fV_mul_some ht', order_nn nt np]
    have : compare (rung t) (rung p) ≠ .lt := fun h => by have := Nat.compare_eq_lt.1 h; omega
    simpa using this

end Go.Proofs.Qxb6600241a.LvW
