/-
  THE WALKS OF zzBytes (16), cloneAddrs (17), sameBytes (20).
-/
import Derived.Test.Qxb6600223aMem
import Derived.Deep.QuietTactic
import Derived.BigQuiet
import Derived.Deep.CutBlock
namespace Go.Proofs.Qxb6600223a.TxW
open Go.RowKit

/-- do all lengths sum to at most 2^20? -/
def okE (n m : Nat) (L : Nat → Nat) : Bool := decide (21 * n + m + Tx.sumL L m ≤ 1048576)
theorem okE_true {n m : Nat} {L : Nat → Nat} (h : okE n m L = true) : 21 * n + m + Tx.sumL L m ≤ 1048576 := of_decide_eq_true h
theorem okE_yes {n m : Nat} {L : Nat → Nat} (h : 21 * n + m + Tx.sumL L m ≤ 1048576) : okE n m L = true := decide_eq_true h
theorem okE_no {n m : Nat} {L : Nat → Nat} (h : ¬ 21 * n + m + Tx.sumL L m ≤ 1048576) : okE n m L = false := decide_eq_false h

set_option maxHeartbeats 1000000 in
theorem zzBytes16 (x y : Bool) (ht : Int) (rd : Int) (a s : Option Addr) (n c m d : Nat) (A : Nat → Option Addr) (L C : Nat → Nat) (w : World) (h : Outer w s m A L C) (hn : n ≤ maxLen) (hm : m ≤ maxLen) (hL : ∀ i, i < m → L i ≤ maxLen) :
    Calls Try.prog 16 #[.bool x, .bool y, .int .u64 ht, .int .i32 rd, .slice a n c, .slice s m d] w fun e w' => e = .returned (.bool (okE n m L)) ∧ w' = w := by
  unfold maxLen at hn hm hL
  by_cases hbig : 1048576 < n
  · have hf : okE n m L = false := okE_no (by omega)
    rw [hf]
    go_enter Try.func16, Try.ntmps16
    go_wp2
    go_ret
    exact ⟨rfl, rfl⟩
  go_enter Try.func16, Try.ntmps16
  go_wp2
  go_loop [13, 14] (fun t i => ∃ k : Nat, k ≤ n ∧ n + 20 * k ≤ 1048576 ∧ i = .int .i64 k ∧ t = .int .i64 (n + 20 * k : Nat)) (fun _ i => n - (intOf i).toNat)
  case atStart => exact ⟨0, Nat.zero_le _, by omega, rfl, by simp⟩
  case round =>
    obtain ⟨k, hk, hs, rfl, rfl⟩ := hrel
    by_cases hlt : k < n
    · by_cases h2 : n + 20 * k + 20 ≤ 1048576
      · have hd : decide ((1048576 : Int) < (n : Int) + 20 * (k : Int) + 20) = false := decide_eq_false (by omega)
        go_upto_block 1 with fail
        apply wp_block
        apply wp_seq_k; intro _ _
        refine wp_cond_false rfl ?_
        go_wp2
        go_round
        case rel => exact ⟨k + 1, by omega, by omega, by go_num, by go_num⟩
        case measure => simp [intOf]; omega
      · have HF : Hid (okE n m L = false) := okE_no (by omega)
        have hd : decide ((1048576 : Int) < (n : Int) + 20 * (k : Int) + 20) = true := decide_eq_true (by omega)
        go_upto_block 1 with fail
        apply wp_block
        apply wp_seq_k; intro _ _
        refine wp_cond_false rfl ?_
        go_wp2
        go_ret
        exact ⟨ret_bool HF.out.symm, rfl⟩
    · have hkn : k = n := by omega
      subst hkn
      clear hlt hk
      by_cases hmb : 1048576 < m
      · have HF : Hid (okE k m L = false) := okE_no (by omega)
        go_wp2
        go_ret
        exact ⟨ret_bool HF.out.symm, rfl⟩
      by_cases hmb2 : 1048576 < k + 20 * k + m
      · have HF : Hid (okE k m L = false) := okE_no (by omega)
        go_wp2
        go_ret
        exact ⟨ret_bool HF.out.symm, rfl⟩
      go_wp2
      go_loop [13, 15] (fun t i => ∃ j : Nat, j ≤ m ∧ k + 20 * k + m + Tx.sumL L j ≤ 1048576 ∧ i = .int .i64 j ∧ t = .int .i64 (k + 20 * k + m + Tx.sumL L j : Nat)) (fun _ i => m - (intOf i).toNat)
      case atStart => exact ⟨0, Nat.zero_le _, by simp [Tx.sumL]; omega, rfl, by simp [Tx.sumL]⟩
      case round =>
        obtain ⟨j, hj, hsj, rfl, rfl⟩ := hrel
        by_cases hlt : j < m
        · obtain ⟨b, off, rfl, hcell⟩ := h.at hlt
          have hc := hcell j hlt
          have hLj := hL j hlt
          have hle := Tx.le_sumL L hlt
          have hsu := Tx.sumL_succ L j
          have hmo := Tx.sumL_mono L (k := j + 1) (n := m) hlt
          clear hcell h hL
          by_cases h1 : L j ≤ 1048576
          · by_cases h2 : k + 20 * k + m + Tx.sumL L j + L j ≤ 1048576
            · have H : Hid (Tx.sumL L (j + 1) = Tx.sumL L j + L j) := hsu
              clear hsu
              go_wp2
              go_round
              case rel => exact ⟨j + 1, by omega, by rw [H.out]; omega, by go_num, by rw [H.out]; go_num⟩
              case measure => simp [intOf]; omega
            · have HF : Hid (okE k m L = false) := okE_no (by omega)
              clear hsu
              go_wp2
              go_ret
              exact ⟨ret_bool HF.out.symm, rfl⟩
          · have HF : Hid (okE k m L = false) := okE_no (by omega)
            clear hsu
            go_wp2
            go_ret
            exact ⟨ret_bool HF.out.symm, rfl⟩
        · have hjm : j = m := by omega
          subst hjm
          have HF : Hid (okE k j L = true) := okE_yes (by omega)
          go_wp2
          go_ret
          exact ⟨ret_bool HF.out.symm, rfl⟩

/-! ### sameBytes (20) -/

set_option maxHeartbeats 1000000 in
theorem sameBytes20 (a b : Option Addr) (l c d : Nat) (z : Nat → Int) (w : World) (ha : Byt w 0 a l z) (hb : Byt w 0 b l z) (hnn : a = none ↔ b = none) (hl : l ≤ 1048576) :
    Calls Try.prog 20 #[.slice a l c, .slice b l d] w fun e w' => e = .returned (.bool true) ∧ ∃ nq, w' = w.drewN nq := by
  have hnil : a.isNone = b.isNone := by
    cases a <;> cases b <;> simp_all
  have heq1 := fun w : World => Lib.run_eql_slice_nil (P := Try.prog) w 37 5 a l c 0 0 Try.underlying37
  have heq2 := fun w : World => Lib.run_eql_slice_nil (P := Try.prog) w 37 5 b l d 0 0 Try.underlying37
  rw [← hnil] at heq2
  clear hnil
  have hx : (a.isNone != a.isNone) = false := by simp
  go_enter Try.func20, Try.ntmps20
  go_wp2
  go_loopw [5] (fun i wr => ∃ k nq : Nat, k ≤ l ∧ i = .int .i64 k ∧ wr = w.drewN nq) (fun i _ => l - (intOf i).toNat)
  case atStart => exact ⟨0, 0, Nat.zero_le _, rfl, rfl⟩
  case round =>
    obtain ⟨k, nq, hk, rfl, rfl⟩ := hrel
    clear heq1 heq2
    by_cases hlt : k < l
    · obtain ⟨b1, o1, rfl, _, hc1⟩ := ha.at hlt
      obtain ⟨b2, o2, rfl, _, hc2⟩ := hb.at hlt
      have h1 := hc1 k hlt
      have h2 := hc2 k hlt
      have hik : (0 : Int) ≤ (k : Int) := by omega
      have hil : (k : Int) < (l : Int) := by omega
      have hne : (z k != z k) = false := by simp
      clear hc1 hc2 ha hb hnn
      go_wp2
      go_quiet (fail)
      go_wp2
      go_roundw
      case rel => exact ⟨k + 1, _, by omega, by go_num, rfl⟩
      case measure => simp [intOf]; omega
    · go_wp2
      go_ret
      exact ⟨rfl, nq, rfl⟩

end Go.Proofs.Qxb6600223a.TxW
