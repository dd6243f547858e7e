/-
  THE WALK OF FnDownMarksSetRepeatsNothingAndTouchesOnlyItsAddress (4).
-/
import Derived.Test.Qxb6600241aAft
import Derived.Deep.DeepCutAuto
import Derived.BigQuiet
namespace Go.Proofs.Qxb6600241a.Dm
open Go.RowKit Go.Maps

set_option maxRecDepth 100000 in
set_option maxHeartbeats 4000000 in
theorem law4 (a b : Option Addr) (n c m d : Nat) (S : Nat → ByteArray) (T : Nat → Bool) (y : ByteArray) (x : Bool) (w : World) (ha : Cells w a n (fun i => .string (S i))) (hb : Cells w b m (fun i => .bool (T i)))
    (hn : n ≤ maxLen) (hm : m ≤ maxLen) (hS : ∀ i, i < n → (S i).size ≤ maxLen) (hy : y.size ≤ maxLen) :
    Calls Try.prog 4 #[.slice a n c, .slice b m d, .string y, .bool x] w fun e w' => e = .returned (.bool true) ∧ Below w.heap.size w w' := by
  go_enter Try.func4, Try.ntmps4
  go_wp2_with fail
  refine (guard21 a b n c m d S y x _ ha hn hm hS hy).mono ?_
  rintro e w' ⟨⟨z, rfl⟩, hw'⟩; obtain rfl := hw'.symm; clear hw'
  cases z with
  | false =>
    unfold maxLen at hn hm hy
    go_wp2
    go_ret
    exact ⟨rfl, Below.refl _ _⟩
  | true =>
  have HS : Hid (∀ i, i < n → (S i).size ≤ maxLen) := hS
  have HY : Hid (y.size ≤ maxLen) := hy
  clear hS
  unfold maxLen at hn hm hy
  by_cases hn4 : 4096 < n
  · go_wp2
    go_ret
    exact ⟨rfl, Below.refl _ _⟩
  by_cases hm4 : 4096 < m
  · go_wp2
    go_ret
    exact ⟨rfl, Below.refl _ _⟩
  by_cases hy4 : 1048576 < y.size
  · go_wp2
    go_ret
    exact ⟨rfl, Below.refl _ _⟩
  clear hn hm hy
  go_wp2_with fail
  refine (bytes12 a n c S _ ha (by omega) HS.out).mono ?_
  rintro e w' ⟨⟨r, rfl, hr0, hr1⟩, hw'⟩; obtain rfl := hw'.symm; clear hw'
  by_cases hr : 1048576 < r + m + y.size
  · go_wp2
    go_ret
    exact ⟨rfl, Below.refl _ _⟩
  go_wp2_with fail
  refine (copyStrings13 a n c S _ ha (by omega)).mono ?_
  rintro e w1 ⟨a', c', rfl, own1, bel1⟩
  have hb1 := hb.later bel1
  clear ha hb
  go_wp2_with fail
  refine (copyBools14 b m d T _ hb1 (by omega)).mono ?_
  rintro e w2 ⟨b', d', rfl, own2, bel2⟩
  have own1' := own1.later bel2
  have bel : Below w.heap.size w w2 := bel1.trans (bel2.mono bel1.size)
  clear hb1 own1
  have b1 : Below w2.heap.size w2 (w2.alloc (.cells #[.map none] 32)) := (Below.refl _ _).alloc (Nat.le_refl _) _
  have s1 : SafeOwn (w2.alloc (.cells #[.map none] 32)) w2.heap.size none a' w.heap.size := fun p hp => by
    have := own_below own1' p hp
    exact ⟨by simp; omega, by omega, by simp⟩
  have s2 : SafeOwn (w2.alloc (.cells #[.map none] 32)) w2.heap.size none b' w1.heap.size := fun p hp => by
    have := own_below own2 p hp
    exact ⟨by simp; omega, by omega, by simp⟩
  go_wp2_with fail
  refine (play22 w2.heap.size none _ a' b' n c' m d' S T w.heap.size w1.heap.size _ (marks_fresh w2) (own1'.later b1) (own2.later b1) s1 s2 (by omega) HS.out).mono ?_
  rintro e w4 ⟨rfl, mb, dn, k, hk, ma, tu⟩
  have o4 := (tu.own (own1'.later b1) s1).1
  clear s1 s2 own2 b1
  go_wp2_with fail
  refine (marks23 w2.heap.size mb dn k a' n c' S _ ma o4.cells (by omega) HS.out).mono ?_
  rintro e w5 ⟨rfl, row, b5⟩
  have af := aft own1' bel tu ma row b5
  clear own1' bel tu ma row b5 o4 bel1 bel2
  generalize w2.heap.size = pm at af ⊢
  generalize w4.heap.size = R at af ⊢
  generalize w.heap.size = g0 at af ⊢
  have AF : Hid (Aft w w5 pm mb dn k a' n S g0 R (fun i => .bool (dn (S i)))) := af
  clear af
  go_wp2_with fail
  refine (count20 pm mb dn k _ AF.out.ma).mono ?_
  rintro e w' ⟨rfl, hw'⟩; obtain rfl := hw'.symm; clear hw'
  go_wp2_with fail
  refine (set17 pm mb dn k y x _ AF.out.ma HY.out (by omega)).mono ?_
  rintro e w6 ⟨rfl, hp⟩
  obtain ⟨mb6, af6⟩ := AF.out.set hp
  have hpos : dn y = true → 1 ≤ k := AF.out.ma.pos HY.out
  have hat : upd dn y x y = x := by simp [upd]
  have hoff : ∀ i, S i ≠ y → upd dn y x (S i) = dn (S i) := fun i hne => by simp [upd, hne]
  have hcnt : (((cnt dn y x k : Nat) : Int) = if (dn y != x) then (if x then (k : Int) + 1 else (k : Int) - 1) else (k : Int)) ∧ cnt dn y x k ≤ 4097 := by
    unfold cnt
    cases x <;> cases hd : dn y <;> simp
    · omega
    · have := hpos hd; omega
    · omega
    · omega
  have HPL : Hid (∀ i, S i ≠ y → upd dn y x (S i) = dn (S i)) := hoff
  have HC : Hid ((((cnt dn y x k : Nat) : Int) = if (dn y != x) then (if x then (k : Int) + 1 else (k : Int) - 1) else (k : Int)) ∧ cnt dn y x k ≤ 4097) := hcnt
  have AF6 : Hid (Aft w w6 pm mb6 (upd dn y x) (cnt dn y x k) a' n S g0 R (fun i => .bool (dn (S i)))) := af6
  have HAT : Hid (upd dn y x y = x) := hat
  clear AF af6 hp hcnt hoff hat hpos
  generalize upd dn y x = dn6 at HPL AF6 HAT
  generalize cnt dn y x k = k6 at HC AF6
  generalize (dn y != x) = q at HC ⊢
  go_wp2_with fail
  refine (set17 pm mb6 dn6 k6 y x _ AF6.out.ma HY.out (by have := HC.out.2; omega)).mono ?_
  rintro e w7 ⟨he, hp⟩
  have he' : e = .returned (.bool false) := by rw [he, HAT.out]; simp
  subst he'
  obtain ⟨mb7, af7⟩ := AF6.out.same HAT.out hp
  have AF7 : Hid (Aft w w7 pm mb7 dn6 k6 a' n S g0 R (fun i => .bool (dn (S i)))) := af7
  clear he af7 hp AF6
  go_wp2_with fail
  refine (isDown19 pm mb7 dn6 k6 y _ AF7.out.ma HY.out).mono ?_
  rintro e w' ⟨he, hw'⟩; obtain rfl := hw'.symm; clear hw'
  rw [HAT.out] at he
  subst he
  have hxx : (x != x) = false := by simp
  go_wp2
  clear hxx
  go_loopw [14] (fun v14 wq => ∃ (i q : Nat), i ≤ n ∧ v14 = .int .i64 i ∧ wq = w7.drewN q) (fun v14 _ => n - (intOf v14).toNat)
  case atStart => exact ⟨0, 0, Nat.zero_le _, rfl, rfl⟩
  case round =>
    obtain ⟨i, q0, hi, rfl, rfl⟩ := hrel
    by_cases hlt : i < n
    · obtain ⟨b1, off1, rfl, hcell1⟩ := AF7.out.own.cells.at hlt
      have hc1 := hcell1 i hlt
      have hc2 : w7.cell? ⟨R, i, none⟩ = some (.bool (dn (S i))) := AF7.out.row.cell hlt
      have hsz := HS.out i hlt
      have hin : (i : Int) < (n : Int) := by omega
      have HMA : Hid (∀ j, MarksAt (w7.drewN j) pm mb7 dn6 k6) := fun j => AF7.out.ma.drawnN j
      by_cases hsy : S i = y
      · have hb : ((S i).toList == y.toList) = true := str_eq hsy
        clear hcell1 AF7 HS HPL HC HAT HMA hsz
        generalize S i = s at hc1 hc2 hb
        go_wp2
        go_quiet (fail)
        go_wp2
        go_roundw
        case rel => exact ⟨i + 1, _, by omega, by go_num, rfl⟩
        case measure => simp [intOf]; omega
      · have hb : ((S i).toList == y.toList) = false := str_ne hsy
        have h19 : Hid (∀ j, Calls Try.prog 19 #[.pointer (some ⟨pm, 0, none⟩), .string (S i)] (w7.drewN j) fun e w' => e = .returned (.bool (dn (S i))) ∧ w' = w7.drewN j) := fun j => by
          have := isDown19 pm mb7 dn6 k6 (S i) _ (HMA.out j) hsz
          rw [HPL.out i hsy] at this
          exact this
        clear hcell1 AF7 HS HPL HC HAT HMA hsz hsy
        generalize S i = s at hc1 hc2 hb h19
        generalize dn s = z at hc2 h19
        have hzz : (z != z) = false := by simp
        go_wp2
        go_region_held3 (fun w' => w'.cell? ⟨b1, off1 + i, none⟩ = some (.string s) ∧ w'.cell? ⟨R, i, none⟩ = some (.bool z)) (go_keep)
          (first | (go_at_call 19; refine (h19.out (q0 + 1)).mono ?_; rintro e w8 ⟨rfl, rfl⟩))
        go_wp2
        go_roundw
        case rel => exact ⟨i + 1, q0 + 1, by omega, by go_num, rfl⟩
        case measure => simp [intOf]; omega
    · have HMA : Hid (MarksAt (w7.drewN q0) pm mb7 dn6 k6) := AF7.out.ma.drawnN q0
      have HB : Hid (Below w.heap.size w (w7.drewN q0)) := below_drewN AF7.out.bel q0
      have hc6 := HC.out.2
      have HC1 := HC.out.1
      clear AF7 HS HPL HAT HC
      cases q with
      | false =>
        have hv : (k6 : Int) = k := by simpa using HC1
        clear HC1
        go_wp2_with fail
        refine (count20 pm mb7 dn6 k6 _ HMA.out).mono ?_
        rintro e w' ⟨rfl, hw'⟩; obtain rfl := hw'.symm; clear hw'
        have hE : ((k6 : Int) == (k : Int)) = true := by simp [hv]
        go_wp2
        go_ret
        exact ⟨rfl, HB.out⟩
      | true =>
      cases x with
      | true =>
        have hv : (k6 : Int) = k + 1 := by simpa using HC1
        clear HC1
        go_wp2_with fail
        refine (count20 pm mb7 dn6 k6 _ HMA.out).mono ?_
        rintro e w' ⟨rfl, hw'⟩; obtain rfl := hw'.symm; clear hw'
        have hE : ((k6 : Int) == (k : Int) + 1) = true := by simp [hv]
        go_wp2
        go_ret
        exact ⟨rfl, HB.out⟩
      | false =>
        have hv : (k6 : Int) = k - 1 := by simpa using HC1
        clear HC1
        go_wp2_with fail
        refine (count20 pm mb7 dn6 k6 _ HMA.out).mono ?_
        rintro e w' ⟨rfl, hw'⟩; obtain rfl := hw'.symm; clear hw'
        have hE : ((k6 : Int) == (k : Int) - 1) = true := by simp [hv]
        go_wp2
        go_ret
        exact ⟨rfl, HB.out⟩

end Go.Proofs.Qxb6600241a.Dm
