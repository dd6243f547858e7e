/-
  THE WALK OF lessThan (32) WHERE ONE OF TWO EQUAL SCORES IS UNTRIED.
-/
import Derived.Test.Qxb6600241aLvWalks
import Derived.Test.Qxb6600241aLoads
import Derived.RegionTactic
import Derived.ChangeAlike
import Derived.BigRegion
namespace Go.Proofs.Qxb6600241a.LvW
open Go.RowKit
attribute [local go_sem] run_store_float run_mul run_add fW_cell fW_frozen fW_size

theorem ret_bool {a b : Bool} (h : a = b) : Ending.returned (.bool a) = .returned (.bool b) := by rw [h]

set_option maxRecDepth 100000 in
set_option maxHeartbeats 2000000 in
theorem untried_less (a b c a' b' : Nat) (st st' : Bool) (n m : Int) (w : World) (h : Says c c false) (hl : Fl.NN a') (ht : Fl.NN b') (h0 : 0 ≤ n) (hnm : n ≤ m) (hm : m ≤ 9223372036854775807) :
    Calls Try.prog 32 #[.agg #[.float .f64 a, .float .f64 b, .bool false, .float .f64 c, .int .i64 n, .bool st], .agg #[.float .f64 a', .float .f64 b', .bool true, .float .f64 c, .int .i64 m, .bool st']] w fun e w' =>
      e = .returned (.bool true) ∧ Below w.heap.size w w' := by
  have f1 := fun w => grow_fact hl w
  have f2 := fun w1 w2 w3 w4 w5 => load_fact hl ht h0 hnm hm w1 w2 w3 w4 w5
  clear hl ht
  go_enter Try.func32, Try.ntmps32
  go_wp2_with fail
  refine (h _).mono ?_
  rintro e w1 ⟨rfl, hw1⟩
  obtain rfl := hw1.symm
  clear hw1
  go_wp2_with fail
  refine (h _).mono ?_
  rintro e w1 ⟨rfl, hw1⟩
  obtain rfl := hw1.symm
  clear hw1 h
  go_wp2
  go_region
  go_wp2
  · go_ret
    exact ⟨rfl, by repeat (first | exact Below.refl _ _ | apply fW_below | apply Below.drew | (refine Below.alloc ?_ (by simp) _))⟩
  · go_ret
    have hne : (n != m) = true := by assumption
    exact ⟨ret_bool (decide_eq_true (by simp at hne; omega)), by repeat (first | exact Below.refl _ _ | apply fW_below | apply Below.drew | (refine Below.alloc ?_ (by simp) _))⟩
  · go_ret
    exact ⟨rfl, by repeat (first | exact Below.refl _ _ | apply fW_below | apply Below.drew | (refine Below.alloc ?_ (by simp) _))⟩

set_option maxRecDepth 100000 in
set_option maxHeartbeats 2000000 in
theorem tried_not_less (a b c a' b' : Nat) (st st' : Bool) (n m : Int) (w : World) (h : Says c c false) (hl : Fl.NN a') (ht : Fl.NN b') (h0 : 0 ≤ n) (hnm : n ≤ m) (hm : m ≤ 9223372036854775807) :
    Calls Try.prog 32 #[.agg #[.float .f64 a', .float .f64 b', .bool true, .float .f64 c, .int .i64 m, .bool st'], .agg #[.float .f64 a, .float .f64 b, .bool false, .float .f64 c, .int .i64 n, .bool st]] w fun e w' =>
      e = .returned (.bool false) ∧ Below w.heap.size w w' := by
  have f1 := fun w => grow_fact hl w
  have f2 := fun w1 w2 w3 w4 w5 => load_fact hl ht h0 hnm hm w1 w2 w3 w4 w5
  clear hl ht
  go_enter Try.func32, Try.ntmps32
  go_wp2_with fail
  refine (h _).mono ?_
  rintro e w1 ⟨rfl, hw1⟩
  obtain rfl := hw1.symm
  clear hw1
  go_wp2_with fail
  refine (h _).mono ?_
  rintro e w1 ⟨rfl, hw1⟩
  obtain rfl := hw1.symm
  clear hw1 h
  go_wp2
  go_region
  go_wp2
  · go_ret
    exact ⟨rfl, by repeat (first | exact Below.refl _ _ | apply fW_below | apply Below.drew | (refine Below.alloc ?_ (by simp) _))⟩
  · go_ret
    exact ⟨ret_bool (decide_eq_false (by omega)), by repeat (first | exact Below.refl _ _ | apply fW_below | apply Below.drew | (refine Below.alloc ?_ (by simp) _))⟩
  · go_ret
    exact ⟨rfl, by repeat (first | exact Below.refl _ _ | apply fW_below | apply Below.drew | (refine Below.alloc ?_ (by simp) _))⟩

/-- equal scores that are not negative: neither counts as less. -/
theorem same_score {c : Nat} (hc : Fl.NN c) : Says c c false := by
  obtain ⟨t, ht, nt, gt⟩ := Fl.grow_ge hc
  intro w
  refine scoresLess_no c c t w ht ?_
  show (Ieee.double.order t c == some .lt) = false
  rw [Fl.order_nn nt hc]
  have : compare (Fl.rung t) (Fl.rung c) ≠ .lt := fun h => by have := Nat.compare_eq_lt.1 h; omega
  simpa using this

end Go.Proofs.Qxb6600241a.LvW
