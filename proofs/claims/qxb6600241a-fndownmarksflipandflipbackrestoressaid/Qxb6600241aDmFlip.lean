/-
  THE WALK OF FnDownMarksFlipAndFlipBackRestores (5).
-/
import Derived.Test.Qxb6600241aAft
import Derived.Deep.DeepCutAuto
namespace Go.Proofs.Qxb6600241a.Dm
open Go.RowKit Go.Maps

set_option maxRecDepth 100000 in
set_option maxHeartbeats 4000000 in
theorem law5 (a b : Option Addr) (n c m d : Nat) (S : Nat → ByteArray) (T : Nat → Bool) (y : ByteArray) (w : World) (ha : Cells w a n (fun i => .string (S i))) (hb : Cells w b m (fun i => .bool (T i)))
    (hn : n ≤ maxLen) (hm : m ≤ maxLen) (hS : ∀ i, i < n → (S i).size ≤ maxLen) (hy : y.size ≤ maxLen) :
    Calls Try.prog 5 #[.slice a n c, .slice b m d, .string y] w fun e w' => e = .returned (.bool true) ∧ Below w.heap.size w w' := by
  go_enter Try.func5, Try.ntmps5
  go_wp2_with fail
  refine (guard24 a b n c m d S y _ ha hn hm hS hy).mono ?_
  rintro e w' ⟨⟨z, rfl⟩, hw'⟩; obtain rfl := hw'.symm; clear hw'
  cases z with
  | false =>
    unfold maxLen at hn hm hy
    go_wp2
    go_ret
    exact ⟨rfl, Below.refl _ _⟩
  | true =>
  have HS : Hid (∀ i, i < n → (S i).size ≤ maxLen) := hS
  have HY : Hid (y.size ≤ maxLen) := hy
  clear hS
  unfold maxLen at hn hm hy
  by_cases hn4 : 4096 < n
  · go_wp2
    go_ret
    exact ⟨rfl, Below.refl _ _⟩
  by_cases hm4 : 4096 < m
  · go_wp2
    go_ret
    exact ⟨rfl, Below.refl _ _⟩
  by_cases hy4 : 1048576 < y.size
  · go_wp2
    go_ret
    exact ⟨rfl, Below.refl _ _⟩
  clear hn hm hy
  go_wp2_with fail
  refine (bytes12 a n c S _ ha (by omega) HS.out).mono ?_
  rintro e w' ⟨⟨r, rfl, hr0, hr1⟩, hw'⟩; obtain rfl := hw'.symm; clear hw'
  by_cases hr : 1048576 < r + m + y.size
  · go_wp2
    go_ret
    exact ⟨rfl, Below.refl _ _⟩
  go_wp2_with fail
  refine (copyStrings13 a n c S _ ha (by omega)).mono ?_
  rintro e w1 ⟨a', c', rfl, own1, bel1⟩
  have hb1 := hb.later bel1
  clear ha hb
  go_wp2_with fail
  refine (copyBools14 b m d T _ hb1 (by omega)).mono ?_
  rintro e w2 ⟨b', d', rfl, own2, bel2⟩
  have own1' := own1.later bel2
  have bel : Below w.heap.size w w2 := bel1.trans (bel2.mono bel1.size)
  clear hb1 own1
  have b1 : Below w2.heap.size w2 (w2.alloc (.cells #[.map none] 32)) := (Below.refl _ _).alloc (Nat.le_refl _) _
  have s1 : SafeOwn (w2.alloc (.cells #[.map none] 32)) w2.heap.size none a' w.heap.size := fun p hp => by
    have := own_below own1' p hp
    exact ⟨by simp; omega, by omega, by simp⟩
  have s2 : SafeOwn (w2.alloc (.cells #[.map none] 32)) w2.heap.size none b' w1.heap.size := fun p hp => by
    have := own_below own2 p hp
    exact ⟨by simp; omega, by omega, by simp⟩
  go_wp2_with fail
  refine (play22 w2.heap.size none _ a' b' n c' m d' S T w.heap.size w1.heap.size _ (marks_fresh w2) (own1'.later b1) (own2.later b1) s1 s2 (by omega) HS.out).mono ?_
  rintro e w4 ⟨rfl, mb, dn, k, hk, ma, tu⟩
  have o4 := (tu.own (own1'.later b1) s1).1
  clear s1 s2 own2 b1
  go_wp2_with fail
  refine (marks23 w2.heap.size mb dn k a' n c' S _ ma o4.cells (by omega) HS.out).mono ?_
  rintro e w5 ⟨rfl, row, b5⟩
  have af := aft own1' bel tu ma row b5
  clear own1' bel tu ma row b5 o4 bel1 bel2
  generalize w2.heap.size = pm at af ⊢
  generalize w4.heap.size = R at af ⊢
  generalize w.heap.size = g0 at af ⊢
  have AF : Hid (Aft w w5 pm mb dn k a' n S g0 R (fun i => .bool (dn (S i)))) := af
  clear af
  go_wp2_with fail
  refine (count20 pm mb dn k _ AF.out.ma).mono ?_
  rintro e w' ⟨rfl, hw'⟩; obtain rfl := hw'.symm; clear hw'
  have hpos : dn y = true → 1 ≤ k := AF.out.ma.pos HY.out
  go_wp2_with fail
  refine (isDown19 pm mb dn k y _ AF.out.ma HY.out).mono ?_
  rintro e w' ⟨he, hw'⟩; obtain rfl := hw'.symm; clear hw'
  subst he
  obtain ⟨x, hx⟩ : ∃ x, dn y = x := ⟨_, rfl⟩
  have HP : Hid (x = true → 1 ≤ k) := fun e => hpos (hx.trans e)
  have HX : Hid (dn y = x) := hx
  clear hpos
  rw [hx]
  clear hx
  go_wp2_with fail
  refine (set17 pm mb dn k y (!x) _ AF.out.ma HY.out (by omega)).mono ?_
  rintro e w6 ⟨he, hp⟩
  have he' : e = .returned (.bool true) := by rw [he, HX.out]; cases x <;> rfl
  subst he'
  obtain ⟨mb6, af6⟩ := AF.out.set hp
  have AF6 : Hid (Aft w w6 pm mb6 (upd dn y (!x)) (cnt dn y (!x) k) a' n S g0 R (fun i => .bool (dn (S i)))) := af6
  have HAT : Hid (upd dn y (!x) y = !x) := by show upd dn y (!x) y = !x; simp [upd]
  have HK : Hid (cnt dn y (!x) k ≤ k + 1) := cnt_le _ _ _ _
  clear AF af6 hp he
  go_wp2_with fail
  refine (isDown19 pm mb6 _ _ y _ AF6.out.ma HY.out).mono ?_
  rintro e w' ⟨he, hw'⟩; obtain rfl := hw'.symm; clear hw'
  rw [HAT.out] at he
  subst he
  have hnx : ((!x) == x) = false := by cases x <;> rfl
  go_wp2_with fail
  refine (set17 pm mb6 _ _ y x _ AF6.out.ma HY.out (by have := HK.out; omega)).mono ?_
  rintro e w7 ⟨he, hp⟩
  have he' : e = .returned (.bool true) := by rw [he, HAT.out]; cases x <;> rfl
  subst he'
  obtain ⟨mb7, af7⟩ := Aft.back HX.out HP.out AF6.out hp
  have AF7 : Hid (Aft w w7 pm mb7 dn k a' n S g0 R (fun i => .bool (dn (S i)))) := af7
  clear he af7 hp AF6 HAT HK hnx
  go_wp2_with fail
  refine (isDown19 pm mb7 dn k y _ AF7.out.ma HY.out).mono ?_
  rintro e w' ⟨he, hw'⟩; obtain rfl := hw'.symm; clear hw'
  rw [HX.out] at he
  subst he
  have hxx : (x != x) = false := by simp
  go_wp2_with fail
  refine (count20 pm mb7 dn k _ AF7.out.ma).mono ?_
  rintro e w' ⟨rfl, hw'⟩; obtain rfl := hw'.symm; clear hw'
  have hkk : ((k : Int) != (k : Int)) = false := by simp
  go_wp2
  clear hxx hkk
  go_loopw [11] (fun v11 wq => ∃ (i q : Nat), i ≤ n ∧ v11 = .int .i64 i ∧ wq = w7.drewN q) (fun v11 _ => n - (intOf v11).toNat)
  case atStart => exact ⟨0, 0, Nat.zero_le _, rfl, rfl⟩
  case round =>
    obtain ⟨i, q0, hi, rfl, rfl⟩ := hrel
    by_cases hlt : i < n
    · obtain ⟨b1, off1, rfl, hcell1⟩ := AF7.out.own.cells.at hlt
      have hc1 := hcell1 i hlt
      have hc2 : w7.cell? ⟨R, i, none⟩ = some (.bool (dn (S i))) := AF7.out.row.cell hlt
      have hsz := HS.out i hlt
      have hin : (i : Int) < (n : Int) := by omega
      have h19 : Hid (∀ j, Calls Try.prog 19 #[.pointer (some ⟨pm, 0, none⟩), .string (S i)] (w7.drewN j) fun e w' => e = .returned (.bool (dn (S i))) ∧ w' = w7.drewN j) := fun j =>
        isDown19 pm mb7 dn k (S i) _ (AF7.out.ma.drawnN j) hsz
      clear hcell1 AF7 HS hsz
      generalize S i = s at hc1 hc2 h19
      generalize dn s = z at hc2 h19
      have hzz : (z != z) = false := by simp
      go_wp2
      go_region_held3 (fun w' => w'.cell? ⟨b1, off1 + i, none⟩ = some (.string s) ∧ w'.cell? ⟨R, i, none⟩ = some (.bool z)) (go_keep)
        (first | (go_at_call 19; refine (h19.out (q0 + 1)).mono ?_; rintro e w8 ⟨rfl, rfl⟩))
      go_wp2
      go_roundw
      case rel => exact ⟨i + 1, q0 + 1, by omega, by go_num, rfl⟩
      case measure => simp [intOf]; omega
    · have HB : Hid (Below w.heap.size w (w7.drewN q0)) := below_drewN AF7.out.bel q0
      clear AF7 HS
      go_wp2
      go_ret
      exact ⟨rfl, HB.out⟩

end Go.Proofs.Qxb6600241a.Dm
