/-
  THE WALKS OF THE LAWS' OWN HELPERS OVER []string AND []bool: the guards (11, 21, 24), zzB1Bytes (12), zzB1Min (15), the copies (13, 14), zzB1IndexOf (16).
-/
import Derived.Test.Qxb6600241aMarkWalks
import Derived.ArgAppend
namespace Go.Proofs.Qxb6600241a.Dm
open Go.RowKit

theorem ret_bool {a b : Bool} (h : a = b) : Ending.returned (.bool a) = .returned (.bool b) := by rw [h]
theorem ret_int {k : IntKind} {a b : Int} (h : a = b) : Ending.returned (.int k a) = .returned (.int k b) := by rw [h]

theorem add_none (b off i : Nat) : (⟨b, off, none⟩ : Addr).add i = ⟨b, off + i, none⟩ := by
  unfold Addr.add
  split
  · next h => subst h; rfl
  · rfl

/-- a slice's cells: nil and empty, or n cells that hold f. -/
structure Cells (w : World) (a : Option Addr) (n : Nat) (f : Nat → Value) : Prop where
  nil : a = none → n = 0
  cell : ∀ p, a = some p → ∀ i, i < n → w.cell? (p.add i) = some (f i)

theorem Cells.at {w : World} {a : Option Addr} {n : Nat} {f : Nat → Value} (h : Cells w a n f) {k : Nat} (hk : k < n) :
    ∃ b off, a = some ⟨b, off, none⟩ ∧ ∀ i, i < n → w.cell? ⟨b, off + i, none⟩ = some (f i) := by
  cases a with
  | none => have := h.nil rfl; omega
  | some p =>
    obtain ⟨b, off, spot⟩ := p
    have hc := h.cell _ rfl
    have h0 := hc 0 (by omega)
    have hspot : spot = none := by simpa [Addr.add] using World.cell?_spot h0
    subst hspot
    exact ⟨b, off, rfl, fun i hi => by rw [← add_none]; exact hc i hi⟩

theorem lt_of_cell {w : World} {p : Addr} {v : Value} (h : w.cell? p = some v) : p.block < w.heap.size := by
  simp only [World.cell?] at h
  by_cases hb : p.block < w.heap.size
  · exact hb
  · rw [Array.getElem?_eq_none (by omega)] at h
    simp at h

theorem cell_keep {w w1 : World} {p : Addr} {v : Value} (hb : Below w.heap.size w w1) (h : w.cell? p = some v) : w1.cell? p = some v := by rw [hb.cell (lt_of_cell h)]; exact h

theorem cell_keep' {w w1 : World} {p : Addr} {v : Value} (hb : Below w.heap.size w w1) (h : w.cell? p = some v) : w1.cell? p = some v := cell_keep hb h

theorem Cells.later {w w' : World} {a : Option Addr} {n : Nat} {f : Nat → Value} (h : Cells w a n f) (hb : Below w.heap.size w w') : Cells w' a n f :=
  ⟨h.nil, fun p hp i hi => cell_keep hb (h.cell p hp i hi)⟩

/-! ### the guards -/

/-- it answers a bool. -/
def IsBool (e : Ending) : Prop := ∃ x, e = .returned (.bool x)
theorem isBool (x : Bool) : IsBool (.returned (.bool x)) := ⟨x, rfl⟩
/-- it answers an int within bounds. -/
def IsInt (e : Ending) (lo hi : Int) : Prop := ∃ x, e = .returned (.int .i64 x) ∧ lo ≤ x ∧ x ≤ hi
theorem isInt {x lo hi : Int} (h1 : lo ≤ x) (h2 : x ≤ hi) : IsInt (.returned (.int .i64 x)) lo hi := ⟨x, rfl, h1, h2⟩


set_option maxHeartbeats 1000000 in
theorem guard11 (a b : Option Addr) (n c m d : Nat) (S : Nat → ByteArray) (w : World) (h : Cells w a n (fun i => .string (S i))) (hn : n ≤ maxLen) (hm : m ≤ maxLen) (hS : ∀ i, i < n → (S i).size ≤ maxLen) :
    Calls Try.prog 11 #[.slice a n c, .slice b m d] w fun e w' => IsBool e ∧ w' = w := by
  unfold maxLen at hn hm hS
  by_cases hbig : 1048576 < n
  · go_enter Try.func11, Try.ntmps11
    go_wp2
    go_ret
    exact ⟨isBool _, rfl⟩
  go_enter Try.func11, Try.ntmps11
  go_wp2
  go_loop [5, 6] (fun t i => ∃ (k : Nat) (x : Int), k ≤ n ∧ 0 ≤ x ∧ x ≤ 1048576 ∧ i = .int .i64 k ∧ t = .int .i64 x) (fun _ i => n - (intOf i).toNat)
  case atStart => exact ⟨0, n, Nat.zero_le _, by omega, by omega, rfl, rfl⟩
  case round =>
    obtain ⟨k, x, hk, hx0, hx1, rfl, rfl⟩ := hrel
    by_cases hlt : k < n
    · obtain ⟨bb, off, rfl, hcell⟩ := h.at hlt
      have hc := hcell k hlt
      have hSk := hS k hlt
      clear hcell h hS
      by_cases h1 : (S k).size ≤ 1048576
      · by_cases h2 : x + (S k).size ≤ 1048576
        · go_wp2
          go_round
          case rel => exact ⟨k + 1, _, by omega, by omega, h2, by go_num, rfl⟩
          case measure => simp [intOf]; omega
        · go_wp2
          go_ret
          exact ⟨isBool _, rfl⟩
      · go_wp2
        go_ret
        exact ⟨isBool _, rfl⟩
    · by_cases h1 : m ≤ 1048576
      · by_cases h2 : x + m ≤ 1048576
        · go_wp2
          go_ret
          exact ⟨isBool _, rfl⟩
        · go_wp2
          go_ret
          exact ⟨isBool _, rfl⟩
      · go_wp2
        go_ret
        exact ⟨isBool _, rfl⟩

set_option maxHeartbeats 1000000 in
theorem guard24 (a b : Option Addr) (n c m d : Nat) (S : Nat → ByteArray) (y : ByteArray) (w : World) (h : Cells w a n (fun i => .string (S i))) (hn : n ≤ maxLen) (hm : m ≤ maxLen) (hS : ∀ i, i < n → (S i).size ≤ maxLen) (hy : y.size ≤ maxLen) :
    Calls Try.prog 24 #[.slice a n c, .slice b m d, .string y] w fun e w' => IsBool e ∧ w' = w := by
  unfold maxLen at hn hm hS hy
  by_cases hbig : 1048576 < n
  · go_enter Try.func24, Try.ntmps24
    go_wp2
    go_ret
    exact ⟨isBool _, rfl⟩
  go_enter Try.func24, Try.ntmps24
  go_wp2
  go_loop [7, 8] (fun t i => ∃ (k : Nat) (x : Int), k ≤ n ∧ 0 ≤ x ∧ x ≤ 1048576 ∧ i = .int .i64 k ∧ t = .int .i64 x) (fun _ i => n - (intOf i).toNat)
  case atStart => exact ⟨0, n, Nat.zero_le _, by omega, by omega, rfl, rfl⟩
  case round =>
    obtain ⟨k, x, hk, hx0, hx1, rfl, rfl⟩ := hrel
    by_cases hlt : k < n
    · obtain ⟨bb, off, rfl, hcell⟩ := h.at hlt
      have hc := hcell k hlt
      have hSk := hS k hlt
      clear hcell h hS
      by_cases h1 : (S k).size ≤ 1048576
      · by_cases h2 : x + (S k).size ≤ 1048576
        · go_wp2
          go_round
          case rel => exact ⟨k + 1, _, by omega, by omega, h2, by go_num, rfl⟩
          case measure => simp [intOf]; omega
        · go_wp2
          go_ret
          exact ⟨isBool _, rfl⟩
      · go_wp2
        go_ret
        exact ⟨isBool _, rfl⟩
    · by_cases h1 : m ≤ 1048576
      · by_cases h2 : x + m ≤ 1048576
        · by_cases h3 : y.size ≤ 1048576
          · by_cases h4 : x + m + y.size ≤ 1048576
            · go_wp2
              go_ret
              exact ⟨isBool _, rfl⟩
            · go_wp2
              go_ret
              exact ⟨isBool _, rfl⟩
          · go_wp2
            go_ret
            exact ⟨isBool _, rfl⟩
        · go_wp2
          go_ret
          exact ⟨isBool _, rfl⟩
      · go_wp2
        go_ret
        exact ⟨isBool _, rfl⟩

set_option maxHeartbeats 1000000 in
theorem guard21 (a b : Option Addr) (n c m d : Nat) (S : Nat → ByteArray) (y : ByteArray) (q : Bool) (w : World) (h : Cells w a n (fun i => .string (S i))) (hn : n ≤ maxLen) (hm : m ≤ maxLen) (hS : ∀ i, i < n → (S i).size ≤ maxLen) (hy : y.size ≤ maxLen) :
    Calls Try.prog 21 #[.slice a n c, .slice b m d, .string y, .bool q] w fun e w' => IsBool e ∧ w' = w := by
  unfold maxLen at hn hm hS hy
  by_cases hbig : 1048576 < n
  · go_enter Try.func21, Try.ntmps21
    go_wp2
    go_ret
    exact ⟨isBool _, rfl⟩
  go_enter Try.func21, Try.ntmps21
  go_wp2
  go_loop [9, 10] (fun t i => ∃ (k : Nat) (x : Int), k ≤ n ∧ 0 ≤ x ∧ x ≤ 1048576 ∧ i = .int .i64 k ∧ t = .int .i64 x) (fun _ i => n - (intOf i).toNat)
  case atStart => exact ⟨0, n, Nat.zero_le _, by omega, by omega, rfl, rfl⟩
  case round =>
    obtain ⟨k, x, hk, hx0, hx1, rfl, rfl⟩ := hrel
    by_cases hlt : k < n
    · obtain ⟨bb, off, rfl, hcell⟩ := h.at hlt
      have hc := hcell k hlt
      have hSk := hS k hlt
      clear hcell h hS
      by_cases h1 : (S k).size ≤ 1048576
      · by_cases h2 : x + (S k).size ≤ 1048576
        · go_wp2
          go_round
          case rel => exact ⟨k + 1, _, by omega, by omega, h2, by go_num, rfl⟩
          case measure => simp [intOf]; omega
        · go_wp2
          go_ret
          exact ⟨isBool _, rfl⟩
      · go_wp2
        go_ret
        exact ⟨isBool _, rfl⟩
    · by_cases h1 : m ≤ 1048576
      · by_cases h2 : x + m ≤ 1048576
        · by_cases h3 : y.size ≤ 1048576
          · by_cases h4 : x + m + y.size ≤ 1048576
            · go_wp2
              go_ret
              exact ⟨isBool _, rfl⟩
            · go_wp2
              go_ret
              exact ⟨isBool _, rfl⟩
          · go_wp2
            go_ret
            exact ⟨isBool _, rfl⟩
        · go_wp2
          go_ret
          exact ⟨isBool _, rfl⟩
      · go_wp2
        go_ret
        exact ⟨isBool _, rfl⟩

/-! ### zzB1Bytes, zzB1Min -/

set_option maxHeartbeats 1000000 in
theorem bytes12 (a : Option Addr) (n c : Nat) (S : Nat → ByteArray) (w : World) (h : Cells w a n (fun i => .string (S i))) (hn : n ≤ 4096) (hS : ∀ i, i < n → (S i).size ≤ maxLen) :
    Calls Try.prog 12 #[.slice a n c] w fun e w' => IsInt e 0 4194304 ∧ w' = w := by
  unfold maxLen at hS
  go_enter Try.func12, Try.ntmps12
  go_wp2
  go_loop [3, 4] (fun t i => ∃ (k : Nat) (x : Int), k ≤ n ∧ 0 ≤ x ∧ x ≤ 1048576 ∧ i = .int .i64 k ∧ t = .int .i64 x) (fun _ i => n - (intOf i).toNat)
  case atStart => exact ⟨0, _, Nat.zero_le _, by omega, by omega, rfl, rfl⟩
  case round =>
    obtain ⟨k, x, hk, hx0, hx1, rfl, rfl⟩ := hrel
    by_cases hlt : k < n
    · obtain ⟨bb, off, rfl, hcell⟩ := h.at hlt
      have hc := hcell k hlt
      have hSk := hS k hlt
      clear hcell h hS
      by_cases h1 : (S k).size ≤ 1048576
      · by_cases h2 : x + (S k).size ≤ 1048576
        · go_wp2
          go_round
          case rel => exact ⟨k + 1, _, by omega, by omega, h2, by go_num, rfl⟩
          case measure => simp [intOf]; omega
        · go_wp2
          go_ret
          exact ⟨isInt (by omega) (by omega), rfl⟩
      · go_wp2
        go_ret
        exact ⟨isInt (by omega) (by omega), rfl⟩
    · go_wp2
      go_ret
      exact ⟨isInt hx0 (by omega), rfl⟩

set_option maxHeartbeats 400000 in
theorem min15 (a b : Nat) (w : World) : Calls Try.prog 15 #[.int .i64 a, .int .i64 b] w fun e w' => e = .returned (.int .i64 (min a b : Nat)) ∧ w' = w := by
  by_cases h : a < b
  · have e : min a b = a := by omega
    rw [e]
    go_enter Try.func15, Try.ntmps15
    go_wp2
    go_ret
    exact ⟨rfl, rfl⟩
  · have e : min a b = b := by omega
    rw [e]
    go_enter Try.func15, Try.ntmps15
    go_wp2
    go_ret
    exact ⟨rfl, rfl⟩

end Go.Proofs.Qxb6600241a.Dm
