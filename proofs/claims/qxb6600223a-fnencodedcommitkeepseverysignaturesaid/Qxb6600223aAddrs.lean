/-
  THE WALK OF cloneAddrs (17).
-/
import Derived.Test.Qxb6600223aEncGuards
namespace Go.Proofs.Qxb6600223a.TxW
open Go.RowKit

/-- twenty zero bytes. -/
def zero20 : Value := .agg #[.int .u8 0, .int .u8 0, .int .u8 0, .int .u8 0, .int .u8 0, .int .u8 0, .int .u8 0, .int .u8 0, .int .u8 0, .int .u8 0, .int .u8 0, .int .u8 0, .int .u8 0, .int .u8 0, .int .u8 0, .int .u8 0, .int .u8 0, .int .u8 0, .int .u8 0, .int .u8 0]
theorem info45 : (Try.prog.info? 45).map (fun i => (i.zero, i.size, i.bytes)) = some (some zero20, 20, 20) := by kernel_rfl
theorem size45 : (Try.prog.info? 45).map (·.size) = some 20 := by kernel_rfl

/-- the twenty bytes from o on. -/
def bytes20 (z : Nat → Int) (o : Nat) : List Value := (List.range 20).map fun j => .int .u8 (z (o + j))

theorem bytes20_len (z : Nat → Int) (o : Nat) : (bytes20 z o).length = 20 := by simp [bytes20]
theorem bytes20_one (z : Nat → Int) (o : Nat) : ∀ v ∈ bytes20 z o, v.oneCell' = true := by
  intro v hv
  simp only [bytes20, List.mem_map] at hv
  obtain ⟨j, _, rfl⟩ := hv
  rfl
theorem bytes20_getD (z : Nat → Int) (o j : Nat) (hj : j < 20) : (bytes20 z o).getD j undef = .int .u8 (z (o + j)) := by
  simp [bytes20, hj]

theorem bytes20_range {w : World} {b off n : Nat} {z : Nat → Int} (h : ∀ i, i < n → w.cell? ⟨b, off + i, none⟩ = some (.int .u8 (z i))) (o : Nat) (ho : o + 20 ≤ n) : w.rangeAt b (off + o) (bytes20 z o) := fun j v hv => by
  simp only [bytes20, List.getElem?_map] at hv
  by_cases hj : j < 20
  · simp [hj] at hv
    rw [Nat.add_assoc, h (o + j) (by omega), hv]
  · simp [hj] at hv

theorem bytes20_step (z : Nat → Int) (k : Nat) (f : Nat → Value) (q : Nat) (h : ∀ q, q < k * 20 → f q = .int .u8 (z q)) (hq : q < (k + 1) * 20) :
    (if k * 20 ≤ q ∧ q < k * 20 + (bytes20 z (k * 20)).length then (bytes20 z (k * 20)).getD (q - k * 20) undef else f q) = .int .u8 (z q) := by
  simp only [bytes20_len]
  by_cases h1 : q < k * 20
  · rw [if_neg (by omega)]; exact h q h1
  · rw [if_pos (by omega), bytes20_getD _ _ _ (by omega)]
    congr 2; omega

theorem byt_row' {w : World} {B l : Nat} {t : TypeId} {m : Nat} {f : Nat → Value} {z : Nat → Int} (h : w.rowIs B t m f) (hl : l ≤ m) (hf : ∀ q, q < l → f q = .int .u8 (z q)) : Byt w B (some ⟨B, 0, none⟩) l z := by
  refine ⟨fun hh => (by cases hh), fun q hq => ?_⟩
  simp only [Option.some.injEq] at hq
  subst hq
  exact ⟨Nat.le_refl _, fun i hi => by rw [add_none, Nat.zero_add, h.cell (by omega), hf i hi]⟩

set_option maxHeartbeats 1000000 in
theorem cloneAddrs17 (a : Option Addr) (n c : Nat) (z : Nat → Int) (w : World) (h : Byt w 0 a (20 * n) z) (hn : n ≤ 1048576) :
    Calls Try.prog 17 #[.slice a n c] w fun e w' => ∃ a' c', e = .returned (.slice a' n c') ∧ Byt w' w.heap.size a' (20 * n) z ∧ Below w.heap.size w w' := by
  cases a with
  | none =>
    have hl0 : n = 0 := by have := h.nil rfl; omega
    subst hl0
    have heq := fun w : World => Lib.run_eql_slice_nil (P := Try.prog) w 39 45 none 0 c 0 0 Try.underlying39
    go_enter Try.func17, Try.ntmps17
    go_wp2
    go_ret
    exact ⟨none, 0, rfl, ⟨fun _ => rfl, fun p hp => by cases hp⟩, Below.refl _ _⟩
  | some p =>
    have heq := fun w : World => Lib.run_eql_slice_nil (P := Try.prog) w 39 45 (some p) n c 0 0 Try.underlying39
    obtain ⟨cs, hmk⟩ : ∃ cs : Array Value, ∀ w : World, (Instr.makeSlice 39 (.int .i64 (n : Int)) (.int .i64 (n : Int))).run Try.prog w = .ok (.slice (some ⟨w.heap.size, 0, none⟩) n n) (w.alloc (.cells (madeCells cs (n * 20)) 45)) :=
      ⟨_, fun w => run_make_wide (P := Try.prog) 39 45 zero20 20 20 Try.underlying39 info45 n (by omega) (by omega) w⟩
    go_enter Try.func17, Try.ntmps17
    go_wp2
    go_loopw [4] (fun i wr => ∃ (k : Nat) (f : Nat → Value), k ≤ n ∧ i = .int .i64 k ∧ wr.rowIs w.heap.size 45 (n * 20) f ∧ (∀ q, q < k * 20 → f q = .int .u8 (z q)) ∧ Below w.heap.size w wr) (fun i _ => n - (intOf i).toNat)
    case atStart =>
      obtain ⟨f, hf⟩ := made_row w cs (n * 20) 45
      exact ⟨0, f, Nat.zero_le _, rfl, hf, fun q hq => by omega, (Below.refl _ _).alloc (Nat.le_refl _) _⟩
    case round =>
      obtain ⟨k, f, hk, rfl, hrow, hfz, hbel⟩ := hrel
      by_cases hlt : k < n
      · obtain ⟨b, off, hp, _, hcell⟩ := h.at (k := 0) (by omega)
        simp only [Option.some.injEq] at hp
        subst hp
        have hran : wr.rangeAt b (off + k * 20) (bytes20 z (k * 20)) := bytes20_range (n := 20 * n) (fun i hi => by
          have hc := hcell i hi
          rw [hbel.cell (lt_of_cell hc)]; exact hc) (k * 20) (by omega)
        have hthere : wr.there w.heap.size (k * 20) 20 := there_row hrow _ _ (by omega)
        obtain ⟨xs, hxs⟩ : ∃ xs, xs = bytes20 z (k * 20) := ⟨_, rfl⟩
        rw [← hxs] at hran
        have HI : Hid ((Try.prog.info? 45).map (·.size) = some xs.length) := by rw [hxs, bytes20_len]; exact size45
        have HT : Hid (wr.there w.heap.size (k * 20) xs.length) := by rw [hxs, bytes20_len]; exact hthere
        have HO : Hid (∀ v ∈ xs, v.oneCell' = true) := by rw [hxs]; exact bytes20_one z (k * 20)
        have HR : Hid (wr.rangeAt b (off + k * 20) xs) := hran
        have HX : Hid (xs = bytes20 z (k * 20)) := hxs
        clear hcell heq hmk h hthere hran hxs
        go_wp2_with (first | (refine ld_wide 45 20 b (off + k * 20) rfl xs _ HR.out Try.underlying45 rfl HI.out ?_) | (refine st_wide 45 22 21 w.heap.size (k * 20) xs rfl rfl HT.out HI.out HO.out ?_))
        go_roundw
        case rel =>
          refine ⟨k + 1, _, by omega, by go_num, rowIs_setCells _ _ _ _ hrow, fun q hq => ?_, below_setCells _ (Nat.le_refl _) _ _ _ hbel⟩
          rw [HX.out]; exact bytes20_step z k f q hfz hq
        case measure => simp [intOf]; omega
      · have hkl : k = n := by omega
        subst hkl
        clear heq hmk
        go_wp2
        go_ret
        exact ⟨_, _, rfl, byt_row' hrow (by omega) (fun q hq => hfz q (by omega)), hbel⟩

end Go.Proofs.Qxb6600223a.TxW
