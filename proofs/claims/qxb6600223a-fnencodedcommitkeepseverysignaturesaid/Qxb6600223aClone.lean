/-
  THE WALKS OF cloneBytes (18) AND cloneList (13).
-/
import Derived.Test.Qxb6600223aTxReads
import Derived.Deep.OwnRows
import Derived.ArgAppend
namespace Go.Proofs.Qxb6600223a.TxW
open Go.RowKit

theorem info5 : (Try.prog.info? 5).map (fun i => (i.zero, i.size, i.bytes)) = some (some (.int .u8 0), 1, 1) := by kernel_rfl
theorem info37 : (Try.prog.info? 37).map (fun i => (i.zero, i.size, i.bytes)) = some (some (.slice none 0 0), 1, 24) := by kernel_rfl

/-- a byte string's cells: nil and empty, or l cells at an address from block B on. -/
structure Byt (w : World) (B : Nat) (a : Option Addr) (l : Nat) (z : Nat → Int) : Prop where
  nil : a = none → l = 0
  cell : ∀ p, a = some p → B ≤ p.block ∧ ∀ i, i < l → w.cell? (p.add i) = some (.int .u8 (z i))

theorem Byt.at {w : World} {B : Nat} {a : Option Addr} {l : Nat} {z : Nat → Int} (h : Byt w B a l z) {k : Nat} (hk : k < l) :
    ∃ b off, a = some ⟨b, off, none⟩ ∧ B ≤ b ∧ ∀ i, i < l → w.cell? ⟨b, off + i, none⟩ = some (.int .u8 (z i)) := by
  cases a with
  | none => have := h.nil rfl; omega
  | some p =>
    obtain ⟨b, off, spot⟩ := p
    have hc := (h.cell _ rfl).2
    have h0 := hc 0 (by omega)
    have hspot : spot = none := by simpa [Addr.add] using World.cell?_spot h0
    subst hspot
    exact ⟨b, off, rfl, (h.cell _ rfl).1, fun i hi => by rw [← add_none]; exact hc i hi⟩

/-- a cell that is there lies in a block that is there. -/
theorem lt_of_cell {w : World} {p : Addr} {v : Value} (h : w.cell? p = some v) : p.block < w.heap.size := by
  simp only [World.cell?] at h
  by_cases hb : p.block < w.heap.size
  · exact hb
  · rw [Array.getElem?_eq_none (by omega)] at h
    simp at h

/-- what is read stays where every block that was there is as it was. -/
theorem Byt.later {w w' : World} {B : Nat} {a : Option Addr} {l : Nat} {z : Nat → Int} (h : Byt w B a l z) (hb : Below w.heap.size w w') : Byt w' B a l z :=
  ⟨h.nil, fun p hp => ⟨(h.cell p hp).1, fun i hi => by
    have hc := (h.cell p hp).2 i hi
    rw [hb.cell (lt_of_cell hc)]; exact hc⟩⟩

theorem Byt.mono {w : World} {B B' : Nat} {a : Option Addr} {l : Nat} {z : Nat → Int} (h : Byt w B a l z) (hB : B' ≤ B) : Byt w B' a l z :=
  ⟨h.nil, fun p hp => ⟨Nat.le_trans hB (h.cell p hp).1, (h.cell p hp).2⟩⟩

theorem add_block (p : Addr) (i : Nat) : (p.add i).block = p.block := by
  unfold Addr.add; split <;> rfl

/-- what is read stays behind a store into a block below. -/
theorem Byt.stored {w : World} {B : Nat} {a : Option Addr} {l : Nat} {z : Nat → Int} (h : Byt w B a l z) {q : Addr} (hq : q.block < B) (v : Value) : Byt (w.setCell q v) B a l z :=
  ⟨h.nil, fun p hp => ⟨(h.cell p hp).1, fun i hi => by
    have hc := (h.cell p hp).2 i hi
    have hblk : (p.add i).block ≠ q.block := by rw [add_block]; have := (h.cell p hp).1; omega
    rw [World.cell?_of_block (w := w) (Below.heap_setCell w q v _ hblk)]; exact hc⟩⟩

/-- a row of the call's own, read as a byte string. -/
theorem byt_row {w : World} {B l : Nat} {z : Nat → Int} (h : w.rowIs B 5 l (fun j => .int .u8 (z j))) : Byt w B (some ⟨B, 0, none⟩) l z := by
  refine ⟨fun hh => (by cases hh), fun q hq => ?_⟩
  simp only [Option.some.injEq] at hq
  subst hq
  exact ⟨Nat.le_refl _, fun i hi => by rw [add_none, Nat.zero_add]; exact h.cell hi⟩

/-- the round's new row: the first k cells are written. -/
def upTo (k : Nat) (z : Nat → Int) (j : Nat) : Int := if j < k then z j else 0

theorem upTo_step (k : Nat) (z : Nat → Int) (j : Nat) : (if j = k then Value.int .u8 (z k) else .int .u8 (upTo k z j)) = .int .u8 (upTo (k + 1) z j) := by
  unfold upTo
  by_cases h : j = k
  · subst h; simp
  · rw [if_neg h]
    by_cases h2 : j < k
    · rw [if_pos h2, if_pos (by omega)]
    · rw [if_neg h2, if_neg (by omega)]

set_option maxHeartbeats 400000 in
theorem cloneBytes18 (a : Option Addr) (l c : Nat) (z : Nat → Int) (w : World) (h : Byt w 0 a l z) (hl : l ≤ 1048576) :
    Calls Try.prog 18 #[.slice a l c] w fun e w' => ∃ a' c', e = .returned (.slice a' l c') ∧ (a' = none ↔ a = none) ∧ Byt w' w.heap.size a' l z ∧ Below w.heap.size w w' := by
  cases a with
  | none =>
    have hl0 := h.nil rfl
    subst hl0
    have heq := fun w : World => Lib.run_eql_slice_nil (P := Try.prog) w 37 5 none 0 c 0 0 Try.underlying37
    go_enter Try.func18, Try.ntmps18
    go_wp2
    go_ret
    exact ⟨none, 0, rfl, by simp, ⟨fun _ => rfl, fun p hp => by cases hp⟩, Below.refl _ _⟩
  | some p =>
    have heq := fun w : World => Lib.run_eql_slice_nil (P := Try.prog) w 37 5 (some p) l c 0 0 Try.underlying37
    have hmk := run_make_row' (P := Try.prog) 37 5 (.int .u8 0) 1 Try.underlying37 info5 rfl .i64 .i64 l (by omega) (by omega)
    go_enter Try.func18, Try.ntmps18
    go_wp2
    go_loopw [4] (fun i wr => ∃ k : Nat, k ≤ l ∧ i = .int .i64 k ∧ wr.rowIs w.heap.size 5 l (fun j => .int .u8 (upTo k z j)) ∧ Below w.heap.size w wr) (fun i _ => l - (intOf i).toNat)
    case atStart => exact ⟨0, Nat.zero_le _, rfl, World.rowIs_made _ _ _ _, (Below.refl _ _).alloc (Nat.le_refl _) _⟩
    case round =>
      obtain ⟨k, hk, rfl, hrow, hbel⟩ := hrel
      by_cases hlt : k < l
      · obtain ⟨b, off, hp, _, hcell⟩ := h.at hlt
        simp only [Option.some.injEq] at hp
        subst hp
        have hc0 := hcell k hlt
        have hc : wr.cell? ⟨b, off + k, none⟩ = some (.int .u8 (z k)) := by rw [hbel.cell (lt_of_cell hc0)]; exact hc0
        have hd := hrow.cell hlt
        have hfz := hrow.frozen k
        clear hcell hc0 heq hmk h
        go_wp2
        go_roundw
        case rel => exact ⟨k + 1, by omega, by go_num, (hrow.set k (.int .u8 (z k))).congr (fun j _ => upTo_step k z j), hbel.setCell (Nat.le_refl _) _⟩
        case measure => simp [intOf]; omega
      · have hkl : k = l := by omega
        subst hkl
        clear heq hmk
        go_wp2
        go_ret
        exact ⟨_, _, rfl, by simp, byt_row (hrow.congr fun j hj => by simp [upTo, hj]), hbel⟩

/-- the round's outer row: the first k cells are written. -/
def outTo (k : Nat) (A : Nat → Option Addr) (L C : Nat → Nat) (j : Nat) : Value := if j < k then .slice (A j) (L j) (C j) else .slice none 0 0

theorem outTo_step (k : Nat) (A : Nat → Option Addr) (L C : Nat → Nat) (a : Option Addr) (c j : Nat) :
    (if j = k then Value.slice a (L k) c else outTo k A L C j) = outTo (k + 1) (fun i => if i = k then a else A i) L (fun i => if i = k then c else C i) j := by
  unfold outTo
  by_cases h : j = k
  · subst h; simp
  · rw [if_neg h]
    by_cases h2 : j < k
    · rw [if_pos h2, if_pos (by omega)]; simp only [if_neg h]
    · rw [if_neg h2, if_neg (by omega)]

/-- the clone's family of byte strings after k rounds. -/
structure Fam (w : World) (B k : Nat) (A A' : Nat → Option Addr) (L : Nat → Nat) (Z : Nat → Nat → Int) : Prop where
  nil : ∀ i, i < k → (A' i = none ↔ A i = none)
  byt : ∀ i, i < k → Byt w B (A' i) (L i) (Z i)

theorem Fam.step {w w2 : World} {B k : Nat} {A A' : Nat → Option Addr} {L : Nat → Nat} {Z : Nat → Nat → Int} {a : Option Addr} (h : Fam w B k A A' L Z)
    (hlater : ∀ i, i < k → Byt w B (A' i) (L i) (Z i) → Byt w2 B (A' i) (L i) (Z i)) (hn : a = none ↔ A k = none) (hb : Byt w2 B a (L k) (Z k)) :
    Fam w2 B (k + 1) A (fun i => if i = k then a else A' i) L Z := by
  refine ⟨fun i hi => ?_, fun i hi => ?_⟩
  · by_cases e : i = k
    · subst e; simpa using hn
    · simp only [if_neg e]; exact h.nil i (by omega)
  · by_cases e : i = k
    · subst e; simpa using hb
    · simp only [if_neg e]; exact hlater i (by omega) (h.byt i (by omega))

set_option maxHeartbeats 400000 in
theorem cloneList13 (a : Option Addr) (n c : Nat) (A : Nat → Option Addr) (L C : Nat → Nat) (Z : Nat → Nat → Int) (w : World) (h : Outer w a n A L C) (hB : ∀ i, i < n → Byt w 0 (A i) (L i) (Z i)) (hs0 : n + Tx.sumL L n ≤ 1048576) :
    Calls Try.prog 13 #[.slice a n c] w fun e w' => ∃ (a' : Option Addr) (c' : Nat) (A' : Nat → Option Addr) (C' : Nat → Nat), e = .returned (.slice a' n c') ∧ (a' = none ↔ a = none) ∧
      (∀ p, a' = some p → p = ⟨w.heap.size, 0, none⟩ ∧ w'.rowIs w.heap.size 37 n (fun j => .slice (A' j) (L j) (C' j))) ∧ Fam w' (w.heap.size + 1) n A A' L Z ∧ Below w.heap.size w w' := by
  cases a with
  | none =>
    have hl0 := h.nil rfl
    subst hl0
    have heq := fun w : World => Lib.run_eql_slice_nil (P := Try.prog) w 26 37 none 0 c 0 0 Try.underlying26
    go_enter Try.func13, Try.ntmps13
    go_wp2
    go_ret
    exact ⟨none, 0, A, C, rfl, by simp, (fun p hp => by cases hp), ⟨fun i hi => by omega, fun i hi => by omega⟩, Below.refl _ _⟩
  | some p =>
    have heq := fun w : World => Lib.run_eql_slice_nil (P := Try.prog) w 26 37 (some p) n c 0 0 Try.underlying26
    have hmk := run_make_row' (P := Try.prog) 26 37 (.slice none 0 0) 24 Try.underlying26 info37 rfl .i64 .i64 n (by omega) (by omega)
    go_enter Try.func13, Try.ntmps13
    go_wp2
    go_loopw [4] (fun i wr => ∃ (k : Nat) (A' : Nat → Option Addr) (C' : Nat → Nat), k ≤ n ∧ i = .int .i64 k ∧ wr.rowIs w.heap.size 37 n (outTo k A' L C') ∧ Fam wr (w.heap.size + 1) k A A' L Z ∧ Below w.heap.size w wr) (fun i _ => n - (intOf i).toNat)
    case atStart => exact ⟨0, A, C, Nat.zero_le _, rfl, World.rowIs_made _ _ _ _, ⟨fun i hi => by omega, fun i hi => by omega⟩, (Below.refl _ _).alloc (Nat.le_refl _) _⟩
    case round =>
      obtain ⟨k, A', C', hk, rfl, hrow, hfam, hbel⟩ := hrel
      by_cases hlt : k < n
      · obtain ⟨b, off, hp, hcell⟩ := h.at hlt
        simp only [Option.some.injEq] at hp
        subst hp
        have hc0 := hcell k hlt
        have hc : wr.cell? ⟨b, off + k, none⟩ = some (.slice (A k) (L k) (C k)) := by rw [hbel.cell (lt_of_cell hc0)]; exact hc0
        have hle := Tx.le_sumL L hlt
        have hsz := hrow.lt
        have hbk := (hB k hlt).later hbel
        clear hcell hc0 heq hmk h hB
        go_wp2_with fail
        refine (cloneBytes18 _ _ _ (Z k) _ hbk (by omega)).mono ?_
        rintro e w1 ⟨a', c', rfl, hnn, hbyt, hbel1⟩
        have hrow1 := hrow.of_block (hbel1.block _ hsz)
        have hbyt2 : Byt w1 (w.heap.size + 1) a' (L k) (Z k) := hbyt.mono hsz
        have hbel2 : Below w.heap.size w w1 := hbel.trans (hbel1.mono (by omega))
        have hd := hrow1.cell hlt
        have hfz := hrow1.frozen k
        go_wp2
        go_roundw
        case rel =>
          refine ⟨k + 1, (fun i => if i = k then a' else A' i), (fun i => if i = k then c' else C' i), by omega, by go_num, (hrow1.set k _).congr (fun j _ => outTo_step k A' L C' a' c' j), ?_, hbel2.setCell (Nat.le_refl _) _⟩
          exact hfam.step (fun i _ hi => (hi.later hbel1).stored (Nat.lt_succ_self _) _) hnn (hbyt2.stored (Nat.lt_succ_self _) _)
        case measure => simp [intOf]; omega
      · have hkl : k = n := by omega
        subst hkl
        clear heq hmk
        go_wp2
        go_ret
        exact ⟨_, _, A', C', rfl, by simp, fun q hq => ⟨by simpa using hq.symm, hrow.congr fun j hj => by simp [outTo, hj]⟩, hfam, hbel⟩

end Go.Proofs.Qxb6600223a.TxW
