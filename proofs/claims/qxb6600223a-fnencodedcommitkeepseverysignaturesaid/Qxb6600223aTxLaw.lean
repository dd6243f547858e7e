/-
  THE WALK OF FnTxBytesOrderFreeAndBounded (6).
-/
import Derived.Test.Qxb6600223aClone
namespace Go.Proofs.Qxb6600223a.TxW
open Go.RowKit

theorem Outer.later {w w' : World} {a : Option Addr} {n : Nat} {A : Nat → Option Addr} {L C : Nat → Nat} (h : Outer w a n A L C) (hb : Below w.heap.size w w') : Outer w' a n A L C :=
  ⟨h.nil, fun p hp i hi => by
    have hc := h.cell p hp i hi
    rw [hb.cell (lt_of_cell hc)]; exact hc⟩

theorem outer_row {w : World} {a : Option Addr} {B n : Nat} {A : Nat → Option Addr} {L C : Nat → Nat} (hn : a = none → n = 0)
    (h : ∀ p, a = some p → p = ⟨B, 0, none⟩ ∧ w.rowIs B 37 n (fun j => .slice (A j) (L j) (C j))) : Outer w a n A L C := by
  refine ⟨hn, fun p hp i hi => ?_⟩
  obtain ⟨rfl, hrow⟩ := h p hp
  rw [add_none, Nat.zero_add]
  exact hrow.cell hi

/-- the reversed row after k rounds. -/
def revTo (n k : Nat) (A : Nat → Option Addr) (L C : Nat → Nat) (j : Nat) : Value := if n - 1 - j < k then .slice (A (n - 1 - j)) (L (n - 1 - j)) (C (n - 1 - j)) else .slice none 0 0

theorem revTo_step (n k : Nat) (A : Nat → Option Addr) (L C : Nat → Nat) (j : Nat) (hk : k < n) (hj : j < n) :
    (if j = n - 1 - k then Value.slice (A k) (L k) (C k) else revTo n k A L C j) = revTo n (k + 1) A L C j := by
  unfold revTo
  by_cases h : j = n - 1 - k
  · have h1 : n - 1 - j = k := by omega
    rw [if_pos h, h1, if_pos (by omega)]
  · rw [if_neg h]
    by_cases h2 : n - 1 - j < k
    · rw [if_pos h2, if_pos (by omega)]
    · rw [if_neg h2, if_neg (by omega)]

theorem rev_outer {w : World} {R n : Nat} {A : Nat → Option Addr} {L C : Nat → Nat} (h : w.rowIs R 37 n (revTo n n A L C)) :
    Outer w (some ⟨R, 0, none⟩) n (fun j => A (n - 1 - j)) (fun j => L (n - 1 - j)) (fun j => C (n - 1 - j)) :=
  outer_row (B := R) (fun hh => by cases hh) (fun p hp => ⟨by simpa using hp.symm, h.congr fun j hj => by
    unfold revTo; rw [if_pos (by omega)]⟩)

set_option maxHeartbeats 1000000 in
theorem law6 (a : Option Addr) (n c : Nat) (A : Nat → Option Addr) (L C : Nat → Nat) (Z : Nat → Nat → Int) (w : World) (h : Outer w a n A L C) (hB : ∀ i, i < n → Byt w 0 (A i) (L i) (Z i)) (hn : n ≤ maxLen) (hL : ∀ i, i < n → L i ≤ maxLen) :
    Calls Try.prog 6 #[.slice a n c] w fun e w' => e = .returned (.bool true) ∧ Below w.heap.size w w' := by
  cases hok : Tx.okB n L with
  | false =>
    have HO : Hid (Tx.okB n L = false) := hok
    clear hok
    go_enter Try.func6, Try.ntmps6
    go_wp2_with fail
    refine (zzBytes15 _ _ _ _ _ _ _ h hn hL).mono ?_
    rintro e w' ⟨rfl, hw'⟩; obtain rfl := hw'.symm; clear hw'
    rw [HO.out]
    go_wp2
    go_ret
    exact ⟨rfl, Below.refl _ _⟩
  | true =>
    have hs0 := Tx.okB_true hok
    have HO : Hid (Tx.okB n L = true) := hok
    clear hok
    go_enter Try.func6, Try.ntmps6
    go_wp2_with fail
    refine (zzBytes15 _ _ _ _ _ _ _ h hn hL).mono ?_
    rintro e w' ⟨rfl, hw'⟩; obtain rfl := hw'.symm; clear hw'
    rw [HO.out]
    go_wp2_with fail
    refine (txBudget12 _ _ _ _ _ _ _ h hs0).mono ?_
    rintro e w' ⟨rfl, hw'⟩; obtain rfl := hw'.symm; clear hw'
    by_cases hbu : Tx.budget n L < 0
    · go_wp2
      go_ret
      exact ⟨rfl, Below.refl _ _⟩
    go_wp2_with fail
    refine (cloneList13 _ _ _ _ _ _ Z _ h hB hs0).mono ?_
    rintro e w1 ⟨a', c', A', C', rfl, hnn, hrow, hfam, hbel⟩
    have hout := outer_row (fun hh => h.nil (hnn.1 hh)) hrow
    clear hrow hfam h hB hnn hL hbu
    go_wp2_with fail
    have hout2 : Outer (w1.alloc (Obj.cells #[Value.slice a' n c', Value.pointer none, Value.slice none 0 0] 34)) a' n A' L C' := hout.later ((Below.refl _ _).alloc (Nat.le_refl _) _)
    have hbel2 : Below w.heap.size w (w1.alloc (Obj.cells #[Value.slice a' n c', Value.pointer none, Value.slice none 0 0] 34)) := hbel.alloc hbel.size _
    refine (txBytes14 _ a' n c' A' L C' _ ?_ hout2 hs0).mono ?_
    · simp
    rintro e w' ⟨rfl, hw'⟩; obtain rfl := hw'.symm; clear hw'
    generalize w1.alloc (Obj.cells #[Value.slice a' n c', Value.pointer none, Value.slice none 0 0] 34) = w2 at hout2 hbel2 ⊢
    clear hout hbel
    have hmk := run_make_row' (P := Try.prog) 26 37 (.slice none 0 0) 24 Try.underlying26 info37 rfl .i64 .i64 n (by omega) (by omega)
    go_wp2
    go_loopw [5] (fun i wr => ∃ k : Nat, k ≤ n ∧ i = .int .i64 k ∧ wr.rowIs w2.heap.size 37 n (revTo n k A' L C') ∧ Below w2.heap.size w2 wr) (fun i _ => n - (intOf i).toNat)
    case atStart => exact ⟨0, Nat.zero_le _, rfl, World.rowIs_made _ _ _ _, (Below.refl _ _).alloc (Nat.le_refl _) _⟩
    case round =>
      obtain ⟨k, hk, rfl, hrow, hbel3⟩ := hrel
      by_cases hlt : k < n
      · obtain ⟨b, off, rfl, hcell⟩ := hout2.at hlt
        have hc0 := hcell k hlt
        have hc : wr.cell? ⟨b, off + k, none⟩ = some (.slice (A' k) (L k) (C' k)) := by rw [hbel3.cell (lt_of_cell hc0)]; exact hc0
        have hd := hrow.cell (i := n - 1 - k) (by omega)
        have hfz := hrow.frozen (n - 1 - k)
        have hix : ((n : Int) - 1 - (k : Int)) = ((n - 1 - k : Nat) : Int) := by omega
        clear hcell hc0 hmk hout2
        go_wp2
        go_roundw
        case rel => exact ⟨k + 1, by omega, by go_num, (hrow.set (n - 1 - k) _).congr (fun j hj => revTo_step n k A' L C' j hlt hj), hbel3.setCell (Nat.le_refl _) _⟩
        case measure => simp [intOf]; omega
      · have hkl : k = n := by omega
        subst hkl
        clear hmk
        have hro := rev_outer hrow
        have hout3 := hout2.later hbel3
        have hbel4 : Below w.heap.size w wr := hbel2.trans (hbel3.mono hbel2.size)
        clear hout2 hrow hbel2
        go_wp2_with fail
        have hout4 : Outer (wr.alloc (Obj.cells #[Value.slice (some ⟨w2.heap.size, 0, none⟩) k k, Value.pointer none, Value.slice none 0 0] 34)) a' k A' L C' := hout3.later ((Below.refl _ _).alloc (Nat.le_refl _) _)
        have hro4 := hro.later ((Below.refl _ wr).alloc (Nat.le_refl _) (Obj.cells #[Value.slice (some ⟨w2.heap.size, 0, none⟩) k k, Value.pointer none, Value.slice none 0 0] 34))
        have hbel5 : Below w.heap.size w (wr.alloc (Obj.cells #[Value.slice (some ⟨w2.heap.size, 0, none⟩) k k, Value.pointer none, Value.slice none 0 0] 34)) := hbel4.alloc hbel4.size _
        refine (txBytes14 _ _ k k _ _ _ _ ?_ hro4 ?_).mono ?_
        · simp
        · rw [Tx.sumL_rev]; exact hs0
        rintro e w' ⟨rfl, hw'⟩; obtain rfl := hw'.symm; clear hw'
        rw [Tx.sumL_rev]
        clear hro4 hro hout3 hbel4 hbel3
        generalize wr.alloc (Obj.cells #[Value.slice (some ⟨w2.heap.size, 0, none⟩) k k, Value.pointer none, Value.slice none 0 0] 34) = w4 at hout4 hbel5 ⊢
        go_wp2
        go_loop [6, 7] (fun t i => ∃ m : Nat, m ≤ k ∧ i = .int .i64 m ∧ t = .bool (Tx.allZ L m)) (fun _ i => k - (intOf i).toNat)
        case atStart => exact ⟨0, Nat.zero_le _, rfl, rfl⟩
        case round =>
          obtain ⟨m, hm, rfl, rfl⟩ := hrel
          by_cases hlt2 : m < k
          · obtain ⟨b, off, rfl, hcell⟩ := hout4.at hlt2
            have hc := hcell m hlt2
            have hle := Tx.le_sumL L hlt2
            clear hcell hout4
            by_cases hpos : 0 < L m
            · have H : Hid (Tx.allZ L (m + 1) = false) := Tx.allZ_succ_pos L m hpos
              go_wp2
              go_round
              case rel => exact ⟨m + 1, by omega, by go_num, by rw [H.out]⟩
              case measure => simp [intOf]; omega
            · have H : Hid (Tx.allZ L (m + 1) = Tx.allZ L m) := Tx.allZ_succ_zero L m (by omega)
              go_wp2
              go_round
              case rel => exact ⟨m + 1, by omega, by go_num, by rw [H.out]⟩
              case measure => simp [intOf]; omega
          · have hmk : m = k := by omega
            subst hmk
            go_wp2
            go_ret
            exact ⟨ret_bool (Tx.all_same L m), hbel5⟩

end Go.Proofs.Qxb6600223a.TxW
