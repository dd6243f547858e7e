/-
  THE WALKS of mdInDomain (8), mostDistinct (21), mdCost (10).
-/
import Derived.Test.Qxb6600223aProg
import Derived.Test.Qxb6600223aMdPlain
import Derived.WalkKit
import Derived.WalkSpells
import Derived.WalkLawsBesides
namespace Go.Proofs.Qxb6600223a
open Go.RowKit

theorem ret_int {k : IntKind} {a b : Int} (h : a = b) : Ending.returned (.int k a) = .returned (.int k b) := by rw [h]

set_option maxHeartbeats 400000 in
theorem mdInDomain_yes (n o : Int) (w : World) (h1 : 0 ≤ n) (h2 : n ≤ 72057594037927936) (h3 : 0 ≤ o) (h4 : o ≤ 72057594037927936) :
    Calls Try.prog 8 #[.int .i64 n, .int .i64 o] w fun e w' => e = .returned (.bool true) ∧ w' = w := by
  go_enter Try.func8, Try.ntmps8
  go_wp2
  go_ret
  exact ⟨rfl, rfl⟩

set_option maxHeartbeats 400000 in
theorem mdInDomain_no (n o : Int) (w : World) (h : n < 0 ∨ 72057594037927936 < n ∨ o < 0 ∨ 72057594037927936 < o) :
    Calls Try.prog 8 #[.int .i64 n, .int .i64 o] w fun e w' => e = .returned (.bool false) ∧ w' = w := by
  by_cases h1 : n < 0
  · go_enter Try.func8, Try.ntmps8
    go_wp2
    go_ret
    exact ⟨rfl, rfl⟩
  by_cases h2 : 72057594037927936 < n
  · go_enter Try.func8, Try.ntmps8
    go_wp2
    go_ret
    exact ⟨rfl, rfl⟩
  by_cases h3 : o < 0
  · go_enter Try.func8, Try.ntmps8
    go_wp2
    go_ret
    exact ⟨rfl, rfl⟩
  have h4 : 72057594037927936 < o := by omega
  clear h
  go_enter Try.func8, Try.ntmps8
  go_wp2
  go_ret
  exact ⟨rfl, rfl⟩

/-! ### mostDistinct (21) -/

set_option maxHeartbeats 1000000 in
theorem mostDistinct_any (n o : Int) (w : World) (h1 : 0 ≤ n) (h2 : n ≤ 72057594037927936) (h3 : 0 ≤ o) (h4 : o ≤ 72057594037927936) :
    Calls Try.prog 21 #[.int .i64 n, .int .i64 o] w fun e w' => (∃ (L : Nat) (q : Int), Md.Left n o L q ∧ e = .returned (.int .i64 (Md.sm L + q))) ∧ w' = w := by
  go_enter Try.func21, Try.ntmps21
  go_wp2
  go_loop [0, 5, 6, 7] (fun a b c d => ∃ L : Nat, L ≤ 7 ∧ 0 ≤ n - Md.cs o L ∧ a = .int .i64 (n - Md.cs o L) ∧ b = .int .i64 (Md.sm L) ∧ c = .int .i64 (Md.pw L) ∧ d = .int .i64 L) (fun _ _ _ d => 8 - (intOf d).toNat)
  case atStart => exact ⟨0, by omega, by simp [Md.cs]; omega, by simp [Md.cs], rfl, rfl, rfl⟩
  case round =>
    obtain ⟨L, hL, hfit, rfl, rfl, rfl, rfl⟩ := hrel
    have hp1 := Md.pw_pos L
    have hp2 := Md.pw_le_7 L hL
    have hs1 := Md.sm_nonneg L
    have hs2 := Md.sm_lt_pw L
    have hc := Md.cs_nonneg o h3 L
    by_cases hz : 0 < (L : Int) + o
    · by_cases hq : (n - Md.cs o L) / ((L : Int) + o) < Md.pw L
      · have hq0 : 0 ≤ (n - Md.cs o L) / ((L : Int) + o) := Int.ediv_nonneg hfit (by omega)
        go_wp2
        go_ret
        exact ⟨⟨L, _, ⟨hL, hz, by omega, rfl, hq⟩, rfl⟩, rfl⟩
      · have hm := Md.fits hz hq
        have hm0 := Md.prod_nonneg o L h3
        have hL6 : L ≤ 6 := Md.le6 hL h3 hc h2 hm
        have hp3 := Md.pw_le_7 (L + 1) (by omega)
        rw [Md.pw_succ] at hp3
        have HC : Hid (Md.cs o (L + 1) = Md.cs o L + Md.pw L * ((L : Int) + o)) := Md.cs_succ o L
        go_wp2
        go_round
        case rel => exact ⟨L + 1, by omega, by rw [HC.out]; omega, by rw [HC.out]; go_num, by rw [Md.sm_succ], by rw [Md.pw_succ], by go_num⟩
        case measure => simp [intOf]; omega
    · have hL0 : L = 0 := by omega
      have ho0 : o = 0 := by omega
      subst hL0
      subst ho0
      simp only [Md.pw, Md.sm, Md.cs]
      go_wp2
      go_round
      case rel => exact ⟨1, by omega, by simp [Md.cs, Md.pw]; omega, by simp [Md.cs, Md.pw], rfl, rfl, rfl⟩
      case measure => simp [intOf]

set_option maxHeartbeats 1000000 in
theorem ZZmostDistinct_any (n o : Int) (w : World) (h1 : 0 ≤ n) (h2 : n ≤ 72057594037927936) (h3 : 0 ≤ o) (h4 : o ≤ 72057594037927936) :
    Calls Try.prog 9 #[.int .i64 n, .int .i64 o] w fun e w' => (∃ (L : Nat) (q : Int), Md.Left n o L q ∧ e = .returned (.int .i64 (Md.sm L + q))) ∧ w' = w := by
  go_enter Try.func9, Try.ntmps9
  go_wp2_with (go_at_call 21; refine (mostDistinct_any n o _ h1 h2 h3 h4).mono ?_; rintro e w' ⟨⟨L, q, hl, rfl⟩, rfl⟩)
  go_ret
  exact ⟨⟨L, q, hl, rfl⟩, rfl⟩

/-! ### mdCost (10) -/

set_option maxHeartbeats 1000000 in
theorem mdCost_any (k o : Int) (L : Nat) (w : World) (hL : L ≤ 7) (h3 : 0 ≤ o) (h4 : o ≤ 72057594037927936) (hk1 : Md.sm L ≤ k) (hk2 : k ≤ Md.sm (L + 1))
    (hb : Md.fin k o L ≤ 1000000000000000000) :
    Calls Try.prog 10 #[.int .i64 k, .int .i64 o] w fun e w' => e = .returned (.int .i64 (Md.fin k o L)) ∧ w' = w := by
  have hk3 : k ≤ 1000000000000000000 := by
    have := Md.sm_lt_pw L; have := Md.pw_le_7 L hL; rw [Md.sm_succ] at hk2; omega
  have hk0 : 0 ≤ k := by have := Md.sm_nonneg L; omega
  go_enter Try.func10, Try.ntmps10
  go_wp2
  go_loop [0, 5, 6, 7] (fun a b c d => (∃ i : Nat, i ≤ L ∧ 0 < k - Md.sm i ∧ a = .int .i64 (k - Md.sm i) ∧ b = .int .i64 (Md.cs o i) ∧ c = .int .i64 (Md.pw i) ∧ d = .int .i64 i) ∨
      (∃ c' d' : Int, a = .int .i64 0 ∧ b = .int .i64 (Md.fin k o L) ∧ c = .int .i64 c' ∧ d = .int .i64 d')) (fun a _ _ _ => (intOf a).toNat)
  case atStart =>
    by_cases h : 0 < k
    · exact Or.inl ⟨0, by omega, by simpa [Md.sm] using h, by simp [Md.sm], by simp [Md.cs], rfl, rfl⟩
    · have hz : k = 0 := by omega
      exact Or.inr ⟨1, 0, by rw [hz], by rw [Md.fin_zero hk1 (by omega)], rfl, rfl⟩
  case round =>
    rcases hrel with ⟨i, hi, hpos, rfl, rfl, rfl, rfl⟩ | ⟨c', d', rfl, rfl, rfl, rfl⟩
    · have hp1 := Md.pw_pos i
      have hp2 := Md.pw_le_7 i (by omega)
      have hs1 := Md.sm_nonneg i
      have hc := Md.cs_nonneg o h3 i
      have hm0 := Md.prod_nonneg o i h3
      by_cases hlt : i < L
      · have hsm := Md.sm_mono (i + 1) L hlt
        have hcs := Md.cs_mono o h3 (i + 1) L hlt
        have hfin := Md.fin_ge k o L h3 hk1
        rw [Md.sm_succ] at hsm
        rw [Md.cs_succ] at hcs
        by_cases hrest : 0 < k - Md.sm i - Md.pw i
        · have hp3 := Md.pw_le_7 (i + 1) (by omega)
          rw [Md.pw_succ] at hp3
          go_wp2
          go_round
          case rel => exact Or.inl ⟨i + 1, by omega, by rw [Md.sm_succ]; omega, by rw [Md.sm_succ]; go_num, by rw [Md.cs_succ], by rw [Md.pw_succ], by go_num⟩
          case measure => simp [intOf]; omega
        · have HD : Hid (Md.cs o i + Md.pw i * ((i : Int) + o) = Md.fin k o L) := Md.fin_done hlt hk1 (by rw [Md.sm_succ]; omega)
          go_wp2
          go_round
          case rel => exact Or.inr ⟨_, _, by rw [show k - Md.sm i - Md.pw i = 0 by omega], by rw [HD.out], rfl, rfl⟩
          case measure => simp [intOf]; omega
      · have hiL : i = L := by omega
        subst hiL
        rw [Md.sm_succ] at hk2
        have HD : Hid (Md.fin k o i = Md.cs o i + (k - Md.sm i) * ((i : Int) + o)) := rfl
        have hpr0 : 0 ≤ (k - Md.sm i) * ((i : Int) + o) := Int.mul_nonneg (by omega) (by omega)
        have hpr1 : Md.cs o i + (k - Md.sm i) * ((i : Int) + o) ≤ 1000000000000000000 := by rw [← HD.out]; exact hb
        clear hb
        by_cases hlt2 : k - Md.sm i < Md.pw i
        · go_wp2
          go_round
          case rel => exact Or.inr ⟨_, _, by simp, by rw [HD.out], rfl, rfl⟩
          case measure => simp [intOf]; omega
        · have hke : Md.pw i = k - Md.sm i := by omega
          have HE : Hid (Md.pw i = k - Md.sm i) := hke
          have hpr2 : 0 ≤ Md.pw i * ((i : Int) + o) := by rw [hke]; exact hpr0
          have hpr3 : Md.cs o i + Md.pw i * ((i : Int) + o) ≤ 1000000000000000000 := by rw [hke]; exact hpr1
          have hge : Md.pw i ≤ k - Md.sm i := by omega
          clear hke hpr0 hpr1
          go_wp2
          go_round
          case rel => exact Or.inr ⟨_, _, by rw [HE.out]; go_num, by rw [HD.out, HE.out], rfl, rfl⟩
          case measure => simp [intOf]; omega
    · go_wp2
      go_ret
      exact ⟨rfl, rfl⟩

end Go.Proofs.Qxb6600223a
