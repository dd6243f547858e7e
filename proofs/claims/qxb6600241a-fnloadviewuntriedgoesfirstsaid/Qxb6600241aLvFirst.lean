/-
  THE WALK OF FnLoadViewUntriedGoesFirst (9).
-/
import Derived.Test.Qxb6600241aLvUntried
import Derived.Deep.Cut
namespace Go.Proofs.Qxb6600241a.LvW
open Go.RowKit
attribute [local go_sem] run_store_float

theorem nn_of_guard {x : Nat} (h : (FloatKind.f64.format.order x 0 == some .gt || FloatKind.f64.format.order x 0 == some .eq) = true) : Fl.NN x := by
  obtain ⟨n0, r0, _⟩ := Fl.nn_const 0 (by omega)
  exact Fl.nn_of_geq n0 (by rw [r0]; omega) (by simpa [FloatKind.format] using h)

set_option maxRecDepth 100000 in
set_option maxHeartbeats 1000000 in
theorem law9 (a b : Nat) (n : Int) (c a' b' : Nat) (m : Int) (hm : m ≤ 9223372036854775807) (w : World) :
    Calls Try.prog 9 #[.float .f64 a, .float .f64 b, .int .i64 n, .float .f64 c, .float .f64 a', .float .f64 b', .int .i64 m] w fun e w' =>
      e = .returned (.bool true) ∧ Below w.heap.size w w' := by
  cases g1 : (FloatKind.f64.format.order c 0 == some .gt || FloatKind.f64.format.order c 0 == some .eq) with
  | false =>
    go_enter Try.func9, Try.ntmps9
    go_wp2
    go_ret
    exact ⟨rfl, Below.refl _ _⟩
  | true =>
  cases g2 : (FloatKind.f64.format.order a' 0 == some .gt || FloatKind.f64.format.order a' 0 == some .eq) with
  | false =>
    go_enter Try.func9, Try.ntmps9
    go_wp2
    go_ret
    exact ⟨rfl, Below.refl _ _⟩
  | true =>
  cases g3 : (FloatKind.f64.format.order b' 0 == some .gt || FloatKind.f64.format.order b' 0 == some .eq) with
  | false =>
    go_enter Try.func9, Try.ntmps9
    go_wp2
    go_ret
    exact ⟨rfl, Below.refl _ _⟩
  | true =>
  by_cases g4 : n < 0
  · go_enter Try.func9, Try.ntmps9
    go_wp2
    go_ret
    exact ⟨rfl, Below.refl _ _⟩
  by_cases g5 : m < n
  · go_enter Try.func9, Try.ntmps9
    go_wp2
    go_ret
    exact ⟨rfl, Below.refl _ _⟩
  have S := same_score (nn_of_guard g1)
  have hl := nn_of_guard g2
  have ht := nn_of_guard g3
  have L1 : LT (view a b c false false n) (view a' b' c true false m) true := fun w => untried_less a b c a' b' false false n m w S hl ht (by omega) (by omega) hm
  have L2 : LT (view a' b' c true false m) (view a b c false false n) false := fun w => tried_not_less a b c a' b' false false n m w S hl ht (by omega) (by omega) hm
  clear S hl ht
  go_enter Try.func9, Try.ntmps9
  go_wp2_with fail
  refine (make28 _ _ _ _ _ _).mono ?_
  rintro e w1 ⟨rfl, hb1⟩
  go_wp2_with fail
  refine (make28 _ _ _ _ _ _).mono ?_
  rintro e w2 ⟨rfl, hb2⟩
  have k1 := (six_new w1 (.float .f64 a) (.float .f64 b) (.bool false) (.float .f64 c) (.int .i64 n) (.bool false) 51).later hb2
  have hbw2 : Below w.heap.size w w2 := (hb1.alloc hb1.size (.cells #[.float .f64 a, .float .f64 b, .bool false, .float .f64 c, .int .i64 n, .bool false] 51)).trans (hb2.mono (by have := hb1.size; simp; omega))
  clear hb2 hb1
  generalize w1.heap.size = B1 at k1 ⊢
  have k2 := six_new w2 (.float .f64 a') (.float .f64 b') (.bool true) (.float .f64 c) (.int .i64 m) (.bool false) 51
  have k1' := k1.later ((Below.refl _ w2).alloc (Nat.le_refl _) (.cells #[.float .f64 a', .float .f64 b', .bool true, .float .f64 c, .int .i64 m, .bool false] 51))
  have hbw3 : Below w.heap.size w (w2.alloc (.cells #[.float .f64 a', .float .f64 b', .bool true, .float .f64 c, .int .i64 m, .bool false] 51)) := hbw2.alloc hbw2.size _
  clear k1 hbw2
  go_upto_region 9 with fail
  generalize w2.alloc (.cells #[.float .f64 a', .float .f64 b', .bool true, .float .f64 c, .int .i64 m, .bool false] 51) = w3 at k2 k1' hbw3 ⊢
  generalize w2.heap.size = B2 at k2 ⊢
  obtain ⟨x0, x1, x2, x3, x4, x5⟩ := k1'
  obtain ⟨y0, y1, y2, y3, y4, y5⟩ := k2
  go_wp2_with fail
  refine (less29 _ _ _ _ _ _ _ _ _ _ _ _ _ _ L1).mono ?_
  rintro e w4 ⟨rfl, hb4⟩
  have x0' := cell_keep hb4 x0
  have x1' := cell_keep hb4 x1
  have x2' := cell_keep hb4 x2
  have x3' := cell_keep hb4 x3
  have x4' := cell_keep hb4 x4
  have x5' := cell_keep hb4 x5
  have y0' := cell_keep hb4 y0
  have y1' := cell_keep hb4 y1
  have y2' := cell_keep hb4 y2
  have y3' := cell_keep hb4 y3
  have y4' := cell_keep hb4 y4
  have y5' := cell_keep hb4 y5
  have hbw4 : Below w.heap.size w w4 := hbw3.trans (hb4.mono hbw3.size)
  clear x0 x1 x2 x3 x4 x5 y0 y1 y2 y3 y4 y5 hb4 hbw3
  go_wp2_with fail
  refine (less29 _ _ _ _ _ _ _ _ _ _ _ _ _ _ L2).mono ?_
  rintro e w5 ⟨rfl, hb5⟩
  have hbw5 : Below w.heap.size w w5 := hbw4.trans (hb5.mono hbw4.size)
  clear hb5 hbw4 x0' x1' x2' x3' x4' x5' y0' y1' y2' y3' y4' y5'
  go_wp2
  go_ret
  exact ⟨rfl, hbw5⟩

end Go.Proofs.Qxb6600241a.LvW
