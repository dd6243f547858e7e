/-
  THE WALK OF FnLoadViewScoreDecidesWhateverTheLoads (8).
-/
import Derived.Test.Qxb6600241aLvWalks
import Derived.Deep.Cut
namespace Go.Proofs.Qxb6600241a.LvW
open Go.RowKit
attribute [local go_sem] run_store_float

theorem eq_lt {o : Option Ordering} (h : o = some .lt) : (o == some .lt) = true := by rw [h]; rfl
theorem ne_lt {o : Option Ordering} (h : o ≠ some .lt) : (o == some .lt) = false := by simpa using h
theorem eq_gt {o : Option Ordering} (h : o = some .gt) : (o == some .gt) = true := by rw [h]; rfl

theorem geq_cases {x y : Nat} (h : (FloatKind.f64.format.order x y == some .gt || FloatKind.f64.format.order x y == some .eq) = true) : Ieee.double.order x y = some .gt ∨ Ieee.double.order x y = some .eq := by
  simpa [FloatKind.format] using h
theorem leq_cases {x y : Nat} (h : (FloatKind.f64.format.order x y == some .lt || FloatKind.f64.format.order x y == some .eq) = true) : Ieee.double.order x y = some .lt ∨ Ieee.double.order x y = some .eq := by
  simpa [FloatKind.format] using h

set_option maxRecDepth 100000 in
set_option maxHeartbeats 1000000 in
theorem law8 (a b c a' b' c' : Nat) (t t' : Bool) (n n' : Int) (w : World) :
    Calls Try.prog 8 #[.float .f64 a, .float .f64 b, .bool t, .float .f64 c, .int .i64 n, .float .f64 a', .float .f64 b', .bool t', .float .f64 c', .int .i64 n'] w fun e w' =>
      e = .returned (.bool true) ∧ Below w.heap.size w w' := by
  cases g1 : (FloatKind.f64.format.order c' 4605831338911806259 == some .gt || FloatKind.f64.format.order c' 4605831338911806259 == some .eq) with
  | false =>
    go_enter Try.func8, Try.ntmps8
    go_wp2
    go_ret
    exact ⟨rfl, Below.refl _ _⟩
  | true =>
  cases g2 : (FloatKind.f64.format.order c' 4607182418800017408 == some .lt || FloatKind.f64.format.order c' 4607182418800017408 == some .eq) with
  | false =>
    go_enter Try.func8, Try.ntmps8
    go_wp2
    go_ret
    exact ⟨rfl, Below.refl _ _⟩
  | true =>
  cases g3 : (FloatKind.f64.format.order c 0 == some .gt || FloatKind.f64.format.order c 0 == some .eq) with
  | false =>
    go_enter Try.func8, Try.ntmps8
    go_wp2
    go_ret
    exact ⟨rfl, Below.refl _ _⟩
  | true =>
  obtain ⟨hw, W, rw', w1, w2⟩ := Fl.range_w (geq_cases g1) (leq_cases g2)
  obtain ⟨m, hm, _⟩ := Fl.mul_times (c := 4605290906956521800) hw (by omega) (by omega)
  have hop := mul_law _ _ _ hm
  clear hw rw' w1 w2
  cases g4 : (FloatKind.f64.format.order c m == some .lt || FloatKind.f64.format.order c m == some .eq) with
  | false =>
    clear hm
    go_enter Try.func8, Try.ntmps8
    go_wp2
    go_ret
    exact ⟨rfl, Below.refl _ _⟩
  | true =>
  have hf := Fl.score_facts (geq_cases g1) (leq_cases g2) (geq_cases g3) hm (leq_cases g4)
  clear hm
  obtain ⟨p, hp1, hp2⟩ := hf.first
  obtain ⟨q, r, s, hq, hr, hs, hqs⟩ := hf.second
  obtain ⟨u, hu1, hu2⟩ := hf.third
  have S1 : Says c c' true := fun w => scoresLess_yes c c' p q r s w hp1 (eq_lt hp2) hq hr hs (eq_gt hqs)
  have S2 : Says c' c false := fun w => scoresLess_no c' c u w hu1 (ne_lt hu2)
  have L1 : LT (view a b c t false n) (view a' b' c' t' false n') false := fun w => lessThan_false _ _ _ _ _ _ _ _ _ _ _ _ w S1
  have L2 : LT (view a' b' c' t' false n') (view a b c t false n) true := fun w => lessThan_true _ _ _ _ _ _ _ _ _ _ _ _ w S2 S1
  clear hp1 hp2 hq hr hs hqs hu1 hu2 S1 S2 hf
  go_enter Try.func8, Try.ntmps8
  go_wp2_with fail
  refine (make28 _ _ _ _ _ _).mono ?_
  rintro e w1 ⟨rfl, hb1⟩
  go_wp2_with fail
  refine (make28 _ _ _ _ _ _).mono ?_
  rintro e w2 ⟨rfl, hb2⟩
  have k1 := (six_new w1 (.float .f64 a) (.float .f64 b) (.bool t) (.float .f64 c) (.int .i64 n) (.bool false) 51).later hb2
  have hbw2 : Below w.heap.size w w2 := (hb1.alloc hb1.size (.cells #[.float .f64 a, .float .f64 b, .bool t, .float .f64 c, .int .i64 n, .bool false] 51)).trans (hb2.mono (by have := hb1.size; simp; omega))
  clear hb2 hb1
  generalize w1.heap.size = B1 at k1 ⊢
  have k2 := six_new w2 (.float .f64 a') (.float .f64 b') (.bool t') (.float .f64 c') (.int .i64 n') (.bool false) 51
  have k1' := k1.later ((Below.refl _ w2).alloc (Nat.le_refl _) (.cells #[.float .f64 a', .float .f64 b', .bool t', .float .f64 c', .int .i64 n', .bool false] 51))
  have hbw3 : Below w.heap.size w (w2.alloc (.cells #[.float .f64 a', .float .f64 b', .bool t', .float .f64 c', .int .i64 n', .bool false] 51)) := hbw2.alloc hbw2.size _
  clear k1 hbw2
  go_upto_region 7 with fail
  generalize w2.alloc (.cells #[.float .f64 a', .float .f64 b', .bool t', .float .f64 c', .int .i64 n', .bool false] 51) = w3 at k2 k1' hbw3 ⊢
  generalize w2.heap.size = B2 at k2 ⊢
  obtain ⟨x0, x1, x2, x3, x4, x5⟩ := k1'
  obtain ⟨y0, y1, y2, y3, y4, y5⟩ := k2
  go_wp2_with fail
  refine (less29 _ _ _ _ _ _ _ _ _ _ _ _ _ _ L1).mono ?_
  rintro e w4 ⟨rfl, hb4⟩
  have x0' := cell_keep hb4 x0
  have x1' := cell_keep hb4 x1
  have x2' := cell_keep hb4 x2
  have x3' := cell_keep hb4 x3
  have x4' := cell_keep hb4 x4
  have x5' := cell_keep hb4 x5
  have y0' := cell_keep hb4 y0
  have y1' := cell_keep hb4 y1
  have y2' := cell_keep hb4 y2
  have y3' := cell_keep hb4 y3
  have y4' := cell_keep hb4 y4
  have y5' := cell_keep hb4 y5
  have hbw4 : Below w.heap.size w w4 := hbw3.trans (hb4.mono hbw3.size)
  clear x0 x1 x2 x3 x4 x5 y0 y1 y2 y3 y4 y5 hb4 hbw3
  go_wp2_with fail
  refine (less29 _ _ _ _ _ _ _ _ _ _ _ _ _ _ L2).mono ?_
  rintro e w5 ⟨rfl, hb5⟩
  have hbw5 : Below w.heap.size w w5 := hbw4.trans (hb5.mono hbw4.size)
  clear hb5 hbw4 x0' x1' x2' x3' x4' x5' y0' y1' y2' y3' y4' y5'
  go_wp2
  go_ret
  exact ⟨rfl, hbw5⟩

end Go.Proofs.Qxb6600241a.LvW
