/-
  THE WALKS OF zzB1CopyStrings (13), zzB1CopyBools (14), zzB1IndexOf (16).
-/
import Derived.Test.Qxb6600241aStrs
namespace Go.Proofs.Qxb6600241a.Dm
open Go.RowKit

theorem info9 : (Try.prog.info? 9).map (fun i => (i.zero, i.size, i.bytes)) = some (some (.string ByteArray.empty), 1, 16) := by kernel_rfl
theorem info4 : (Try.prog.info? 4).map (fun i => (i.zero, i.size, i.bytes)) = some (some (.bool false), 1, 1) := by kernel_rfl

/-- a slice of the call's own: nil and empty, or the whole row of block g. -/
structure Own (w : World) (a : Option Addr) (t : TypeId) (n : Nat) (f : Nat → Value) (g : Nat) : Prop where
  nil : a = none → n = 0
  row : ∀ p, a = some p → p = ⟨g, 0, none⟩ ∧ w.rowIs g t n f

theorem Own.cells {w : World} {a : Option Addr} {t : TypeId} {n : Nat} {f : Nat → Value} {g : Nat} (h : Own w a t n f g) : Cells w a n f := by
  refine ⟨h.nil, fun p hp i hi => ?_⟩
  obtain ⟨rfl, hr⟩ := h.row p hp
  rw [add_none, Nat.zero_add]
  exact hr.cell hi

theorem Own.later {w w' : World} {a : Option Addr} {t : TypeId} {n : Nat} {f : Nat → Value} {g : Nat} (h : Own w a t n f g) (hb : Below w.heap.size w w') : Own w' a t n f g :=
  ⟨h.nil, fun p hp => ⟨(h.row p hp).1, (h.row p hp).2.of_block (hb.block _ (h.row p hp).2.lt)⟩⟩

/-- the round's new row: the first k cells are written. -/
def upTo (k : Nat) (f : Nat → Value) (z : Value) (j : Nat) : Value := if j < k then f j else z

theorem upTo_step (k : Nat) (f : Nat → Value) (z : Value) (j : Nat) : (if j = k then f k else upTo k f z j) = upTo (k + 1) f z j := by
  unfold upTo
  by_cases h : j = k
  · subst h; simp
  · rw [if_neg h]
    by_cases h2 : j < k
    · rw [if_pos h2, if_pos (by omega)]
    · rw [if_neg h2, if_neg (by omega)]

set_option maxHeartbeats 400000 in
theorem copyStrings13 (a : Option Addr) (n c : Nat) (S : Nat → ByteArray) (w : World) (h : Cells w a n (fun i => .string (S i))) (hn : n ≤ 4096) :
    Calls Try.prog 13 #[.slice a n c] w fun e w' => ∃ a' c', e = .returned (.slice a' n c') ∧ Own w' a' 9 n (fun i => .string (S i)) w.heap.size ∧ Below w.heap.size w w' := by
  cases a with
  | none =>
    have hl0 := h.nil rfl
    subst hl0
    have heq := fun w : World => Lib.run_eql_slice_nil (P := Try.prog) w 22 9 none 0 c 0 0 Try.underlying22
    go_enter Try.func13, Try.ntmps13
    go_wp2
    go_ret
    exact ⟨none, 0, rfl, ⟨fun _ => rfl, fun p hp => by cases hp⟩, Below.refl _ _⟩
  | some p =>
    have heq := fun w : World => Lib.run_eql_slice_nil (P := Try.prog) w 22 9 (some p) n c 0 0 Try.underlying22
    have hmk := run_make_row' (P := Try.prog) 22 9 (.string ByteArray.empty) 16 Try.underlying22 info9 rfl .i64 .i64 n (by omega) (by omega)
    go_enter Try.func13, Try.ntmps13
    go_wp2
    go_loopw [4] (fun i wr => ∃ k : Nat, k ≤ n ∧ i = .int .i64 k ∧ wr.rowIs w.heap.size 9 n (upTo k (fun j => .string (S j)) (.string ByteArray.empty)) ∧ Below w.heap.size w wr) (fun i _ => n - (intOf i).toNat)
    case atStart => exact ⟨0, Nat.zero_le _, rfl, (World.rowIs_made _ _ _ _).congr (fun j _ => by simp [upTo]), (Below.refl _ _).alloc (Nat.le_refl _) _⟩
    case round =>
      obtain ⟨k, hk, rfl, hrow, hbel⟩ := hrel
      by_cases hlt : k < n
      · obtain ⟨b, off, hp, hcell⟩ := h.at hlt
        simp only [Option.some.injEq] at hp
        subst hp
        have hc : wr.cell? ⟨b, off + k, none⟩ = some (.string (S k)) := cell_keep' hbel (hcell k hlt)
        obtain ⟨u, hd⟩ : ∃ u, wr.cell? ⟨w.heap.size, k, none⟩ = some u := ⟨_, hrow.cell hlt⟩
        have hfz := hrow.frozen k
        clear hcell heq hmk h
        go_wp2
        go_roundw
        case rel => exact ⟨k + 1, by omega, by go_num, (hrow.set k (.string (S k))).congr (fun j _ => upTo_step k (fun j => .string (S j)) _ j), hbel.setCell (Nat.le_refl _) _⟩
        case measure => simp [intOf]; omega
      · have hkl : k = n := by omega
        subst hkl
        clear heq hmk
        go_wp2
        go_ret
        exact ⟨_, _, rfl, ⟨(fun hh => by cases hh), fun q hq => ⟨by simpa using hq.symm, hrow.congr fun j hj => by simp [upTo, hj]⟩⟩, hbel⟩

set_option maxHeartbeats 400000 in
theorem copyBools14 (a : Option Addr) (n c : Nat) (T : Nat → Bool) (w : World) (h : Cells w a n (fun i => .bool (T i))) (hn : n ≤ 4096) :
    Calls Try.prog 14 #[.slice a n c] w fun e w' => ∃ a' c', e = .returned (.slice a' n c') ∧ Own w' a' 4 n (fun i => .bool (T i)) w.heap.size ∧ Below w.heap.size w w' := by
  cases a with
  | none =>
    have hl0 := h.nil rfl
    subst hl0
    have heq := fun w : World => Lib.run_eql_slice_nil (P := Try.prog) w 23 4 none 0 c 0 0 Try.underlying23
    go_enter Try.func14, Try.ntmps14
    go_wp2
    go_ret
    exact ⟨none, 0, rfl, ⟨fun _ => rfl, fun p hp => by cases hp⟩, Below.refl _ _⟩
  | some p =>
    have heq := fun w : World => Lib.run_eql_slice_nil (P := Try.prog) w 23 4 (some p) n c 0 0 Try.underlying23
    have hmk := run_make_row' (P := Try.prog) 23 4 (.bool false) 1 Try.underlying23 info4 rfl .i64 .i64 n (by omega) (by omega)
    go_enter Try.func14, Try.ntmps14
    go_wp2
    go_loopw [4] (fun i wr => ∃ k : Nat, k ≤ n ∧ i = .int .i64 k ∧ wr.rowIs w.heap.size 4 n (upTo k (fun j => .bool (T j)) (.bool false)) ∧ Below w.heap.size w wr) (fun i _ => n - (intOf i).toNat)
    case atStart => exact ⟨0, Nat.zero_le _, rfl, (World.rowIs_made _ _ _ _).congr (fun j _ => by simp [upTo]), (Below.refl _ _).alloc (Nat.le_refl _) _⟩
    case round =>
      obtain ⟨k, hk, rfl, hrow, hbel⟩ := hrel
      by_cases hlt : k < n
      · obtain ⟨b, off, hp, hcell⟩ := h.at hlt
        simp only [Option.some.injEq] at hp
        subst hp
        have hc : wr.cell? ⟨b, off + k, none⟩ = some (.bool (T k)) := cell_keep' hbel (hcell k hlt)
        obtain ⟨u, hd⟩ : ∃ u, wr.cell? ⟨w.heap.size, k, none⟩ = some u := ⟨_, hrow.cell hlt⟩
        have hfz := hrow.frozen k
        clear hcell heq hmk h
        go_wp2
        go_roundw
        case rel => exact ⟨k + 1, by omega, by go_num, (hrow.set k (.bool (T k))).congr (fun j _ => upTo_step k (fun j => .bool (T j)) _ j), hbel.setCell (Nat.le_refl _) _⟩
        case measure => simp [intOf]; omega
      · have hkl : k = n := by omega
        subst hkl
        clear heq hmk
        go_wp2
        go_ret
        exact ⟨_, _, rfl, ⟨(fun hh => by cases hh), fun q hq => ⟨by simpa using hq.symm, hrow.congr fun j hj => by simp [upTo, hj]⟩⟩, hbel⟩

/-! ### zzB1IndexOf -/

theorem str_inj {s t : ByteArray} (h : s.toList = t.toList) : s = t := by
  rw [ByteArray.toList_eq, ByteArray.toList_eq] at h
  cases s; cases t
  simp only [ByteArray.mk.injEq]
  exact Array.toList_inj.1 h
theorem str_eq {s t : ByteArray} (h : s = t) : (s.toList == t.toList) = true := by subst h; simp
theorem str_ne {s t : ByteArray} (h : s ≠ t) : (s.toList == t.toList) = false := by
  simp only [beq_eq_false_iff_ne, ne_eq]
  exact fun e => h (str_inj e)

/-- what zzB1IndexOf answers. -/
def Found (n : Nat) (M : Nat → ByteArray) (s : ByteArray) (e : Ending) : Prop :=
  (∃ i : Nat, i < n ∧ e = .returned (.int .i64 i) ∧ M i = s) ∨ (e = .returned (.int .i64 (-1)) ∧ ∀ i, i < n → M i ≠ s)

set_option maxHeartbeats 400000 in
theorem indexOf16 (a : Option Addr) (n c : Nat) (M : Nat → ByteArray) (s : ByteArray) (w : World) (h : Cells w a n (fun i => .string (M i))) (hn : n ≤ 4096) :
    Calls Try.prog 16 #[.slice a n c, .string s] w fun e w' => Found n M s e ∧ w' = w := by
  go_enter Try.func16, Try.ntmps16
  go_wp2
  go_loop [5] (fun i => ∃ k : Nat, k ≤ n ∧ i = .int .i64 k ∧ ∀ j, j < k → M j ≠ s) (fun i => n - (intOf i).toNat)
  case atStart => exact ⟨0, Nat.zero_le _, rfl, fun j hj => by omega⟩
  case round =>
    obtain ⟨k, hk, rfl, hno⟩ := hrel
    have HN : Hid (∀ j, j < k → M j ≠ s) := hno
    clear hno
    by_cases hlt : k < n
    · obtain ⟨b, off, rfl, hcell⟩ := h.at hlt
      have hc := hcell k hlt
      clear hcell h
      by_cases he : M k = s
      · have hb : ((M k).toList == s.toList) = true := str_eq he
        have HE : Hid (M k = s) := he
        clear he
        go_wp2
        go_ret
        exact ⟨Or.inl ⟨k, hlt, rfl, HE.out⟩, rfl⟩
      · have hb : ((M k).toList == s.toList) = false := str_ne he
        have HE : Hid (M k ≠ s) := he
        clear he
        go_wp2
        go_round
        case rel => exact ⟨k + 1, by omega, by go_num, fun j hj => if hjk : j < k then HN.out j hjk else (show j = k by omega) ▸ HE.out⟩
        case measure => simp [intOf]; omega
    · go_wp2
      go_ret
      exact ⟨Or.inr ⟨rfl, fun i hi => HN.out i (by omega)⟩, rfl⟩

end Go.Proofs.Qxb6600241a.Dm
