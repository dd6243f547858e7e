/-
  THE WALKS OF scoresLess (35), ZZMakeLoadView (28), lessThan (32), ZZLoadViewLessThan (29), where the scores decide.
-/
import Derived.Test.Qxb6600241aProg
import Derived.Test.Qxb6600241aScore
import Derived.WalkKit
import Derived.WalkSpells
import Derived.WalkLawsBesides
import Derived.Laws.FloatArith
namespace Go.Proofs.Qxb6600241a.LvW
open Go.RowKit

/-- a store of a float: the kit has the like for every other plain value. -/
theorem run_store_float (P : Program) (w : World) (a : Addr) (m : Mode) (k : FloatKind) (b : Nat) : (store a (.float k b) m).run P w = stored P w a (.float k b) m := run_store P w a _ m rfl
attribute [local go_sem] run_store_float

theorem mul_law (x y r : Nat) (h : Ieee.double.mul x y = some r) : ∀ t w, (binOp .mul t (.float .f64 x) (.float .f64 y)).run Try.prog w = .ok (.float .f64 r) w :=
  fun t w => run_float_arith w .mul t .f64 x y r h
theorem sub_law (x y r : Nat) (h : Ieee.double.sub x y = some r) : ∀ t w, (binOp .sub t (.float .f64 x) (.float .f64 y)).run Try.prog w = .ok (.float .f64 r) w :=
  fun t w => run_float_arith w .sub t .f64 x y r h

set_option maxHeartbeats 400000 in
theorem scoresLess_no (s o p : Nat) (w : World) (hp : Ieee.double.mul s 4608308318706860032 = some p) (hc : (FloatKind.f64.format.order p o == some .lt) = false) :
    Calls Try.prog 35 #[.float .f64 s, .float .f64 o] w fun e w' => e = .returned (.bool false) ∧ w' = w := by
  have hop := mul_law _ _ _ hp
  clear hp
  go_enter Try.func35, Try.ntmps35
  go_wp2
  go_ret
  exact ⟨rfl, rfl⟩

set_option maxHeartbeats 400000 in
theorem scoresLess_yes (s o p q r t : Nat) (w : World) (hp : Ieee.double.mul s 4608308318706860032 = some p) (hc : (FloatKind.f64.format.order p o == some .lt) = true)
    (hq : Ieee.double.sub 4607182418800017408 s = some q) (hr : Ieee.double.sub 4607182418800017408 o = some r) (ht : Ieee.double.mul 4610785298501913805 r = some t) (hd : (FloatKind.f64.format.order q t == some .gt) = true) :
    Calls Try.prog 35 #[.float .f64 s, .float .f64 o] w fun e w' => e = .returned (.bool true) ∧ w' = w := by
  have h1 := mul_law _ _ _ hp
  have h2 := sub_law _ _ _ hq
  have h3 := sub_law _ _ _ hr
  have h4 := mul_law _ _ _ ht
  clear hp hq hr ht
  go_enter Try.func35, Try.ntmps35
  go_wp2
  go_ret
  exact ⟨rfl, rfl⟩

set_option maxHeartbeats 400000 in
theorem make28 (a b c : Nat) (t : Bool) (n : Int) (w : World) :
    Calls Try.prog 28 #[.float .f64 a, .float .f64 b, .bool t, .float .f64 c, .int .i64 n] w fun e w' =>
      e = .returned (.agg #[.float .f64 a, .float .f64 b, .bool t, .float .f64 c, .int .i64 n, .bool false]) ∧ Below w.heap.size w w' := by
  go_enter Try.func28, Try.ntmps28
  go_wp2
  exact bodyPost_ret (v := .agg #[.float .f64 a, .float .f64 b, .bool t, .float .f64 c, .int .i64 n, .bool false]) (by simp [results, Try.results28, go_sem]) rfl ⟨rfl, (Below.refl _ _).alloc (Nat.le_refl _) _⟩

/-- what a call of scoresLess answers, in whatever world. -/
def Says (s o : Nat) (b : Bool) : Prop := ∀ w : World, Calls Try.prog 35 #[.float .f64 s, .float .f64 o] w fun e w' => e = .returned (.bool b) ∧ w' = w

set_option maxHeartbeats 400000 in
theorem lessThan_false (a b c a' b' c' : Nat) (t st t' st' : Bool) (n n' : Int) (w : World) (h : Says c c' true) :
    Calls Try.prog 32 #[.agg #[.float .f64 a, .float .f64 b, .bool t, .float .f64 c, .int .i64 n, .bool st], .agg #[.float .f64 a', .float .f64 b', .bool t', .float .f64 c', .int .i64 n', .bool st']] w fun e w' =>
      e = .returned (.bool false) ∧ Below w.heap.size w w' := by
  go_enter Try.func32, Try.ntmps32
  go_wp2_with fail
  refine (h _).mono ?_
  rintro e w1 ⟨rfl, hw1⟩
  obtain rfl := hw1.symm
  go_wp2
  go_ret
  exact ⟨rfl, ((Below.refl _ _).alloc (Nat.le_refl _) _).alloc (by simp) _⟩

set_option maxHeartbeats 400000 in
theorem lessThan_true (a b c a' b' c' : Nat) (t st t' st' : Bool) (n n' : Int) (w : World) (h : Says c c' false) (h' : Says c' c true) :
    Calls Try.prog 32 #[.agg #[.float .f64 a, .float .f64 b, .bool t, .float .f64 c, .int .i64 n, .bool st], .agg #[.float .f64 a', .float .f64 b', .bool t', .float .f64 c', .int .i64 n', .bool st']] w fun e w' =>
      e = .returned (.bool true) ∧ Below w.heap.size w w' := by
  go_enter Try.func32, Try.ntmps32
  go_wp2_with fail
  refine (h _).mono ?_
  rintro e w1 ⟨rfl, hw1⟩
  obtain rfl := hw1.symm
  go_wp2_with fail
  refine (h' _).mono ?_
  rintro e w1 ⟨rfl, hw1⟩
  obtain rfl := hw1.symm
  go_wp2
  go_ret
  exact ⟨rfl, ((Below.refl _ _).alloc (Nat.le_refl _) _).alloc (by simp) _⟩

/-- a loadView as the walk holds it. -/
def view (a b c : Nat) (t st : Bool) (n : Int) : Value := .agg #[.float .f64 a, .float .f64 b, .bool t, .float .f64 c, .int .i64 n, .bool st]

/-- what a call of lessThan answers, in whatever world. -/
def LT (A B : Value) (x : Bool) : Prop := ∀ w : World, Calls Try.prog 32 #[A, B] w fun e w' => e = .returned (.bool x) ∧ Below w.heap.size w w'

set_option maxHeartbeats 400000 in
theorem less29 (a b c a' b' c' : Nat) (t st t' st' : Bool) (n n' : Int) (x : Bool) (w : World) (h : LT (view a b c t st n) (view a' b' c' t' st' n') x) :
    Calls Try.prog 29 #[.agg #[.float .f64 a, .float .f64 b, .bool t, .float .f64 c, .int .i64 n, .bool st], .agg #[.float .f64 a', .float .f64 b', .bool t', .float .f64 c', .int .i64 n', .bool st']] w fun e w' =>
      e = .returned (.bool x) ∧ Below w.heap.size w w' := by
  go_enter Try.func29, Try.ntmps29
  go_wp2_with fail
  refine (h _).mono ?_
  rintro e w1 ⟨rfl, hb⟩
  have hb2 : Below w.heap.size w w1 := (((Below.refl _ w).alloc (Nat.le_refl _) (.cells #[.float .f64 a, .float .f64 b, .bool t, .float .f64 c, .int .i64 n, .bool st] 51)).alloc (by simp) (.cells #[.float .f64 a', .float .f64 b', .bool t', .float .f64 c', .int .i64 n', .bool st'] 51)).trans (hb.mono (by simp; omega))
  clear hb
  go_wp2
  go_ret
  exact ⟨rfl, hb2⟩

/-- six cells of one block. -/
def Six (w : World) (b : Nat) (x0 x1 x2 x3 x4 x5 : Value) : Prop :=
  w.cell? ⟨b, 0, none⟩ = some x0 ∧ w.cell? ⟨b, 1, none⟩ = some x1 ∧ w.cell? ⟨b, 2, none⟩ = some x2 ∧ w.cell? ⟨b, 3, none⟩ = some x3 ∧ w.cell? ⟨b, 4, none⟩ = some x4 ∧ w.cell? ⟨b, 5, none⟩ = some x5

theorem six_new (w : World) (x0 x1 x2 x3 x4 x5 : Value) (t : TypeId) : Six (w.alloc (.cells #[x0, x1, x2, x3, x4, x5] t)) w.heap.size x0 x1 x2 x3 x4 x5 := by
  refine ⟨?_, ?_, ?_, ?_, ?_, ?_⟩ <;> simp

theorem lt_of_cell {w : World} {p : Addr} {v : Value} (h : w.cell? p = some v) : p.block < w.heap.size := by
  simp only [World.cell?] at h
  by_cases hb : p.block < w.heap.size
  · exact hb
  · rw [Array.getElem?_eq_none (by omega)] at h
    simp at h

theorem cell_keep {w w1 : World} {p : Addr} {v : Value} (hb : Below w.heap.size w w1) (h : w.cell? p = some v) : w1.cell? p = some v := by rw [hb.cell (lt_of_cell h)]; exact h

theorem Six.later {w w' : World} {b : Nat} {x0 x1 x2 x3 x4 x5 : Value} (h : Six w b x0 x1 x2 x3 x4 x5) (hb : Below w.heap.size w w') : Six w' b x0 x1 x2 x3 x4 x5 :=
  ⟨cell_keep hb h.1, cell_keep hb h.2.1, cell_keep hb h.2.2.1, cell_keep hb h.2.2.2.1, cell_keep hb h.2.2.2.2.1, cell_keep hb h.2.2.2.2.2⟩

end Go.Proofs.Qxb6600241a.LvW
