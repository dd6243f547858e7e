/-
  THE WALKS THAT ONLY READ A LIST OF BYTE STRINGS: zzBytes (15), txBudget (12), TxBytes (14).
-/
import Derived.Test.Qxb6600223aProg
import Derived.Test.Qxb6600223aTxPlain
import Derived.WalkKit
import Derived.WalkSpells
import Derived.WalkLawsBesides
namespace Go.Proofs.Qxb6600223a.TxW
open Go.RowKit

theorem ret_bool {a b : Bool} (h : a = b) : Ending.returned (.bool a) = .returned (.bool b) := by rw [h]
theorem ret_int {k : IntKind} {a b : Int} (h : a = b) : Ending.returned (.int k a) = .returned (.int k b) := by rw [h]

theorem add_none (b off i : Nat) : (⟨b, off, none⟩ : Addr).add i = ⟨b, off + i, none⟩ := by
  unfold Addr.add
  split
  · next h => subst h; rfl
  · rfl

/-- the cells of an outer slice: nil and empty, or n cells that hold slices. -/
structure Outer (w : World) (a : Option Addr) (n : Nat) (A : Nat → Option Addr) (L C : Nat → Nat) : Prop where
  nil : a = none → n = 0
  cell : ∀ p, a = some p → ∀ i, i < n → w.cell? (p.add i) = some (.slice (A i) (L i) (C i))

/-- where there is an element, the address is one of a block and an offset. -/
theorem Outer.at {w : World} {a : Option Addr} {n : Nat} {A : Nat → Option Addr} {L C : Nat → Nat} (h : Outer w a n A L C) {k : Nat} (hk : k < n) :
    ∃ b off, a = some ⟨b, off, none⟩ ∧ ∀ i, i < n → w.cell? ⟨b, off + i, none⟩ = some (.slice (A i) (L i) (C i)) := by
  cases a with
  | none => have := h.nil rfl; omega
  | some p =>
    obtain ⟨b, off, spot⟩ := p
    have hc := h.cell _ rfl
    have h0 := hc 0 (by omega)
    have hspot : spot = none := by simpa [Addr.add] using World.cell?_spot h0
    subst hspot
    exact ⟨b, off, rfl, fun i hi => by rw [← add_none]; exact hc i hi⟩

set_option maxHeartbeats 400000 in
theorem zzBytes15 (a : Option Addr) (n c : Nat) (A : Nat → Option Addr) (L C : Nat → Nat) (w : World) (h : Outer w a n A L C) (hn : n ≤ maxLen) (hL : ∀ i, i < n → L i ≤ maxLen) :
    Calls Try.prog 15 #[.slice a n c] w fun e w' => e = .returned (.bool (Tx.okB n L)) ∧ w' = w := by
  unfold maxLen at hn hL
  by_cases hbig : 1048576 < n
  · have hf : Tx.okB n L = false := Tx.okB_no (by omega)
    rw [hf]
    go_enter Try.func15, Try.ntmps15
    go_wp2
    go_ret
    exact ⟨rfl, rfl⟩
  have hbig' : (n : Int) ≤ 1048576 := by omega
  go_enter Try.func15, Try.ntmps15
  go_wp2
  go_loop [3, 4] (fun t i => ∃ k : Nat, k ≤ n ∧ n + Tx.sumL L k ≤ 1048576 ∧ i = .int .i64 k ∧ t = .int .i64 (n + Tx.sumL L k : Nat)) (fun _ i => n - (intOf i).toNat)
  case atStart => exact ⟨0, Nat.zero_le _, by simp [Tx.sumL]; omega, rfl, by simp [Tx.sumL]⟩
  case round =>
    obtain ⟨k, hk, hs, rfl, rfl⟩ := hrel
    by_cases hlt : k < n
    · obtain ⟨b, off, rfl, hcell⟩ := h.at hlt
      have hc := hcell k hlt
      have hLk := hL k hlt
      have hle := Tx.le_sumL L hlt
      have hsu := Tx.sumL_succ L k
      have hmo := Tx.sumL_mono L (k := k + 1) (n := n) hlt
      clear hcell h hL
      by_cases h1 : L k ≤ 1048576
      · by_cases h2 : n + Tx.sumL L k + L k ≤ 1048576
        · have H : Hid (Tx.sumL L (k + 1) = Tx.sumL L k + L k) := hsu
          clear hsu
          go_wp2
          go_round
          case rel => exact ⟨k + 1, by omega, by rw [H.out]; omega, by go_num, by rw [H.out]; go_num⟩
          case measure => simp [intOf]; omega
        · have HF : Hid (Tx.okB n L = false) := Tx.okB_no (by omega)
          clear hsu
          go_wp2
          go_ret
          exact ⟨ret_bool HF.out.symm, rfl⟩
      · have HF : Hid (Tx.okB n L = false) := Tx.okB_no (by omega)
        clear hsu
        go_wp2
        go_ret
        exact ⟨ret_bool HF.out.symm, rfl⟩
    · have hkn : k = n := by omega
      subst hkn
      have HF : Hid (Tx.okB k L = true) := Tx.okB_yes hs
      go_wp2
      go_ret
      exact ⟨ret_bool HF.out.symm, rfl⟩

set_option maxHeartbeats 400000 in
theorem txBudget12 (a : Option Addr) (n c : Nat) (A : Nat → Option Addr) (L C : Nat → Nat) (w : World) (h : Outer w a n A L C) (hs0 : n + Tx.sumL L n ≤ 1048576) :
    Calls Try.prog 12 #[.slice a n c] w fun e w' => e = .returned (.int .i64 (Tx.budget n L)) ∧ w' = w := by
  by_cases hbig : 1048576 < 24 * n
  · have hf : Tx.budget n L = -1 := by unfold Tx.budget; rw [if_neg (by omega)]
    rw [hf]
    go_enter Try.func12, Try.ntmps12
    go_wp2
    go_ret
    exact ⟨rfl, rfl⟩
  go_enter Try.func12, Try.ntmps12
  go_wp2
  go_loop [3, 4] (fun t i => ∃ k : Nat, k ≤ n ∧ 24 * n + Tx.sumL L k ≤ 1048576 ∧ i = .int .i64 k ∧ t = .int .i64 (24 * n + Tx.sumL L k : Nat)) (fun _ i => n - (intOf i).toNat)
  case atStart => exact ⟨0, Nat.zero_le _, by simp [Tx.sumL]; omega, rfl, by simp [Tx.sumL]⟩
  case round =>
    obtain ⟨k, hk, hs, rfl, rfl⟩ := hrel
    by_cases hlt : k < n
    · obtain ⟨b, off, rfl, hcell⟩ := h.at hlt
      have hc := hcell k hlt
      have hle := Tx.le_sumL L hlt
      have hsu := Tx.sumL_succ L k
      have hmo := Tx.sumL_mono L (k := k + 1) (n := n) hlt
      clear hcell h
      by_cases h2 : 24 * n + Tx.sumL L k + L k ≤ 1048576
      · have H : Hid (Tx.sumL L (k + 1) = Tx.sumL L k + L k) := hsu
        clear hsu
        go_wp2
        go_round
        case rel => exact ⟨k + 1, by omega, by rw [H.out]; omega, by go_num, by rw [H.out]; go_num⟩
        case measure => simp [intOf]; omega
      · have HF : Hid (Tx.budget n L = -1) := (by unfold Tx.budget; rw [if_neg (by omega)] : Tx.budget n L = -1)
        clear hsu
        go_wp2
        go_ret
        exact ⟨ret_int (by rw [HF.out]; try omega), rfl⟩
    · have hkn : k = n := by omega
      subst hkn
      have HF : Hid (Tx.budget k L = ((24 * k + Tx.sumL L k : Nat) : Int)) := (by unfold Tx.budget; rw [if_pos hs] : Tx.budget k L = ((24 * k + Tx.sumL L k : Nat) : Int))
      go_wp2
      go_ret
      exact ⟨ret_int (by rw [HF.out]; try omega), rfl⟩

set_option maxHeartbeats 400000 in
theorem txBytes14 (b0 : Nat) (a : Option Addr) (n c : Nat) (A : Nat → Option Addr) (L C : Nat → Nat) (w : World) (hb : w.cell? ⟨b0, 0, none⟩ = some (.slice a n c)) (h : Outer w a n A L C) (hs0 : n + Tx.sumL L n ≤ 1048576) :
    Calls Try.prog 14 #[.pointer (some ⟨b0, 0, none⟩)] w fun e w' => e = .returned (.int .i64 (Tx.sumL L n : Nat)) ∧ w' = w := by
  go_enter Try.func14, Try.ntmps14
  go_wp2
  go_loop [3, 11] (fun t i => ∃ k : Nat, k ≤ n ∧ i = .int .i64 k ∧ t = .int .i64 (Tx.sumL L k : Nat)) (fun _ i => n - (intOf i).toNat)
  case atStart => exact ⟨0, Nat.zero_le _, rfl, by simp [Tx.sumL]⟩
  case round =>
    obtain ⟨k, hk, rfl, rfl⟩ := hrel
    by_cases hlt : k < n
    · obtain ⟨b, off, rfl, hcell⟩ := h.at hlt
      have hc := hcell k hlt
      have hmo := Tx.sumL_mono L (k := k + 1) (n := n) hlt
      have hsu := Tx.sumL_succ L k
      have H : Hid (Tx.sumL L (k + 1) = Tx.sumL L k + L k) := hsu
      have hmo2 : Tx.sumL L k + L k ≤ Tx.sumL L n := by omega
      clear hcell h hsu hmo
      go_wp2
      go_round
      case rel => exact ⟨k + 1, by omega, by go_num, by rw [H.out]; go_num⟩
      case measure => simp [intOf]; omega
    · have hkn : k = n := by omega
      subst hkn
      go_wp2
      go_ret
      exact ⟨ret_int rfl, rfl⟩

end Go.Proofs.Qxb6600223a.TxW
