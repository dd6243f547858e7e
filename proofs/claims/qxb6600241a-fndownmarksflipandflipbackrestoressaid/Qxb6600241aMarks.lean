/-
  THE RECORD OF MARKS (*DownMarks): a pointer to a cell that holds a map[string]bool; what it says, as a plain function, and what the operations on it do.
-/
import Derived.Test.Qxb6600241aProg
import Derived.WalkKit
import Derived.WalkSpells
import Derived.WalkLawsBesides
import Derived.Maps.OwnSet
import Derived.Deep.OwnRows
import Derived.StringKeys
namespace Go.Proofs.Qxb6600241a.Dm
open Go.RowKit Go.Maps

theorem law : Keyed Try.prog 9 := string_keyed Try.underlying9
theorem zero4 (w : World) : (zeroValue 4).run Try.prog w = .ok (.bool false) w := by kernel_rfl

theorem plainElem_bool_inv {v : Value} {z : DataW Unit × List MemPlace} (h : plainElem Try.prog 4 v = some z) : ∃ x, v = .bool x ∧ z = (.lit (.bool x), []) := by
  unfold plainElem at h
  rw [Try.underlying4] at h
  cases v <;> simp at h
  exact ⟨_, rfl, h.symm⟩

/-- the key of an address. -/
def ky (s : ByteArray) : Lit := .string s.data.toList

theorem ky_inj {s t : ByteArray} (h : ky s = ky t) : s = t := by
  simp only [ky, Lit.string.injEq] at h
  cases s; cases t
  simp only [ByteArray.mk.injEq]
  exact Array.toList_inj.1 h

theorem keyOf_ky (s : ByteArray) (hs : s.size ≤ maxLen) : keyOf Try.prog 9 (.string s) = some (ky s) := WideMaps.keyOf_string_mk Try.underlying9 hs

theorem ky_lit (s : ByteArray) : WideAt.IsKeyLit (ky s) := by
  unfold ky; trivial

/-- what the marks say of each address, turned at one. -/
def upd (dn : ByteArray → Bool) (s : ByteArray) (d : Bool) (t : ByteArray) : Bool := if t = s then d else dn t

/-- the datum says what 'dn' says. -/
structure Reads (D : DataW Unit) (dn : ByteArray → Bool) : Prop where
  at_ : ∀ s, s.size ≤ maxLen → D.atKey (ky s) (.lit (.bool false)) = .lit (.bool (dn s))
  has_ : ∀ s, s.size ≤ maxLen → Maps.has D (ky s) = dn s

theorem Reads.put {D : DataW Unit} {dn : ByteArray → Bool} (h : Reads D dn) (hD : IsMap D) (s : ByteArray) : Reads (D.put (ky s) (.lit (.bool true))) (upd dn s true) := by
  refine ⟨fun t ht => ?_, fun t ht => ?_⟩
  · unfold upd
    by_cases e : t = s
    · subst e; rw [if_pos rfl]; exact atKey_put_same hD (ky_lit t) _ _
    · rw [if_neg e, atKey_put_other (fun h => e (ky_inj h))]; exact h.at_ t ht
  · unfold upd
    by_cases e : t = s
    · subst e; rw [if_pos rfl]; exact has_put_same hD (ky_lit t) _
    · rw [if_neg e, has_put_other (fun h => e (ky_inj h))]; exact h.has_ t ht

theorem Reads.del {D : DataW Unit} {dn : ByteArray → Bool} (h : Reads D dn) (s : ByteArray) : Reads (D.del (ky s)) (upd dn s false) := by
  refine ⟨fun t ht => ?_, fun t ht => ?_⟩
  · unfold upd
    by_cases e : t = s
    · subst e; rw [if_pos rfl]; exact atKey_del_same _
    · rw [if_neg e, atKey_del_other (fun h => e (ky_inj h))]; exact h.at_ t ht
  · unfold upd
    by_cases e : t = s
    · subst e; rw [if_pos rfl]; exact has_del_same
    · rw [if_neg e, has_del_other (fun h => e (ky_inj h))]; exact h.has_ t ht

/-- the map in block b says 'dn', in c entries. -/
def Holds (w : World) (b : Nat) (dn : ByteArray → Bool) (c : Nat) : Prop :=
  ∃ D : DataW Unit, w.ownsMap Try.prog 9 (plainElem Try.prog 4) b c D ∧ Maps.size D = c ∧ Reads D dn

/-- as many entries as there are. -/
theorem tight {w : World} {b n : Nat} {D : DataW Unit} {R : Value → Option (DataW Unit × List MemPlace)} (h : w.ownsMap Try.prog 9 R b n D) : w.ownsMap Try.prog 9 R b (Maps.size D) D := by
  obtain ⟨es, clock, hb, F, _, rfl⟩ := h
  exact ⟨es, clock, hb, F, by simp [Maps.size, length_sorted], rfl⟩

theorem holds_made (w : World) : Holds (w.alloc (.map #[] 0)) w.heap.size (fun _ => false) 0 :=
  ⟨.map [], World.ownsMap_made w _ _ _, rfl, ⟨fun _ _ => rfl, fun _ _ => rfl⟩⟩

theorem Holds.lt {w : World} {b c : Nat} {dn : ByteArray → Bool} (h : Holds w b dn c) : b < w.heap.size := by
  obtain ⟨D, h, _⟩ := h; exact h.lt

theorem Holds.of_block {w w' : World} {b c : Nat} {dn : ByteArray → Bool} (h : Holds w b dn c) (e : w'.heap[b]? = w.heap[b]?) : Holds w' b dn c := by
  obtain ⟨D, ⟨es, clock, hb, r⟩, h2⟩ := h
  exact ⟨D, ⟨es, clock, e.trans hb, r⟩, h2⟩

theorem Holds.look {w : World} {b c : Nat} {dn : ByteArray → Bool} (h : Holds w b dn c) (s : ByteArray) (hs : s.size ≤ maxLen) : (Instr.lookup 30 (.map (some b)) (.string s) false).run Try.prog w = .ok (.bool (dn s)) w := by
  obtain ⟨D, ho, _, hr⟩ := h
  obtain ⟨v, ps, hrun, hv⟩ := ho.lookup law Try.underlying30 (zero4 w) (plainElem_bool Try.underlying4 false) (keyOf_ky s hs)
  obtain ⟨x, rfl, hx⟩ := plainElem_bool_inv hv
  have h1 := hr.at_ s hs
  simp only [Prod.mk.injEq] at hx
  rw [hx.1] at h1
  simp at h1
  rw [← h1]; exact hrun

theorem Holds.size {w : World} {b c : Nat} {dn : ByteArray → Bool} (h : Holds w b dn c) (ty : TypeId) : (Builtin.len_ #[30] ty #[.map (some b)]).run Try.prog w = .ok (.int .i64 c) w := by
  obtain ⟨D, ho, hc, _⟩ := h
  rw [← hc]; exact ho.len Try.underlying30 ty

/-- how many entries stand behind a Set. -/
def cnt (dn : ByteArray → Bool) (s : ByteArray) (d : Bool) (c : Nat) : Nat := if dn s = d then c else if d then c + 1 else c - 1

/-! ### the record -/

structure MarksAt (w : World) (pm : Nat) (mb : Option Nat) (dn : ByteArray → Bool) (c : Nat) : Prop where
  row : w.rowIs pm 32 1 (fun _ => .map mb)
  nil : mb = none → dn = (fun _ => false) ∧ c = 0
  map : ∀ b, mb = some b → Holds w b dn c

/-- what a step leaves alone: every block but the record's and its map's; a new map is a new block. -/
structure Turn (pm : Nat) (mb mb' : Option Nat) (w w' : World) : Prop where
  os : w'.os = w.os
  tape : w'.tape = w.tape
  output : w'.output = w.output
  size : w.heap.size ≤ w'.heap.size
  block : ∀ k, k < w.heap.size → k ≠ pm → some k ≠ mb → w'.heap[k]? = w.heap[k]?
  mb : mb' = mb ∨ ∃ b, mb' = some b ∧ w.heap.size ≤ b

theorem Turn.refl (pm : Nat) (mb : Option Nat) (w : World) : Turn pm mb mb w w := ⟨rfl, rfl, rfl, Nat.le_refl _, fun _ _ _ _ => rfl, Or.inl rfl⟩

theorem Turn.trans {pm : Nat} {m0 m1 m2 : Option Nat} {a b c : World} (h : Turn pm m0 m1 a b) (k : Turn pm m1 m2 b c) : Turn pm m0 m2 a c := by
  refine ⟨k.os.trans h.os, k.tape.trans h.tape, k.output.trans h.output, Nat.le_trans h.size k.size, fun i hi hp hm => ?_, ?_⟩
  · refine (k.block i (Nat.lt_of_lt_of_le hi h.size) hp ?_).trans (h.block i hi hp hm)
    rcases h.mb with e | ⟨b', e, hb'⟩
    · rw [e]; exact hm
    · rw [e]; intro e2; simp at e2; omega
  · rcases k.mb with e | ⟨b', e, hb'⟩
    · rcases h.mb with e2 | ⟨b2, e2, hb2⟩
      · exact Or.inl (e.trans e2)
      · exact Or.inr ⟨b2, e.trans e2, hb2⟩
    · exact Or.inr ⟨b', e, Nat.le_trans h.size hb'⟩

/-- a block that no step on the record touches. -/
structure Safe (w : World) (pm : Nat) (mb : Option Nat) (k : Nat) : Prop where
  lt : k < w.heap.size
  pm : k ≠ pm
  mb : some k ≠ mb

theorem Turn.keeps {pm : Nat} {m0 m1 : Option Nat} {a b : World} (h : Turn pm m0 m1 a b) {k : Nat} (s : Safe a pm m0 k) : b.heap[k]? = a.heap[k]? ∧ Safe b pm m1 k := by
  refine ⟨h.block k s.lt s.pm s.mb, Nat.lt_of_lt_of_le s.lt h.size, s.pm, ?_⟩
  rcases h.mb with e | ⟨b', e, hb'⟩
  · rw [e]; exact s.mb
  · rw [e]; have := s.lt; intro e2; simp at e2; omega

theorem Turn.below {pm : Nat} {m0 m1 : Option Nat} {a b w : World} {B : Nat} (h : Turn pm m0 m1 a b) (hw : Below B w a) (hB : B ≤ a.heap.size) (hpm : B ≤ pm) (hmb : ∀ k, m0 = some k → B ≤ k) : Below B w b := by
  refine hw.trans ⟨h.os, h.tape, h.output, h.size, fun k hk => h.block k (by omega) (by omega) ?_⟩
  intro e
  have := hmb k e.symm
  omega

theorem Turn.base {pm : Nat} {m0 m1 : Option Nat} {a b : World} {B : Nat} (h : Turn pm m0 m1 a b) (hB : B ≤ a.heap.size) (hmb : ∀ k, m0 = some k → B ≤ k) : ∀ k, m1 = some k → B ≤ k := by
  intro k hk
  rcases h.mb with e | ⟨b', e, hb'⟩
  · exact hmb k (e.symm.trans hk)
  · rw [e] at hk; simp at hk; omega

theorem MarksAt.look {w : World} {pm : Nat} {mb : Option Nat} {dn : ByteArray → Bool} {c : Nat} (h : MarksAt w pm mb dn c) (s : ByteArray) (hs : s.size ≤ maxLen) : (Instr.lookup 30 (.map mb) (.string s) false).run Try.prog w = .ok (.bool (dn s)) w := by
  cases mb with
  | none =>
    rw [(h.nil rfl).1]
    have := Maps.look_nil (w := w) false law Try.underlying30 (zero4 w) (keyOf_ky s hs)
    simpa using this
  | some b => exact (h.map b rfl).look s hs

theorem MarksAt.len {w : World} {pm : Nat} {mb : Option Nat} {dn : ByteArray → Bool} {c : Nat} (h : MarksAt w pm mb dn c) (ty : TypeId) : (Builtin.len_ #[30] ty #[.map mb]).run Try.prog w = .ok (.int .i64 c) w := by
  cases mb with
  | none =>
    rw [(h.nil rfl).2]
    exact Maps.len_nil Try.underlying30 ty
  | some b => exact (h.map b rfl).size ty

theorem MarksAt.cell {w : World} {pm : Nat} {mb : Option Nat} {dn : ByteArray → Bool} {c : Nat} (h : MarksAt w pm mb dn c) : w.cell? ⟨pm, 0, none⟩ = some (.map mb) ∧ w.frozen? ⟨pm, 0, none⟩ = false :=
  ⟨h.row.cell (i := 0) (by omega), h.row.frozen 0⟩

/-- the record's block is no map. -/
theorem MarksAt.ne {w : World} {pm b : Nat} {dn : ByteArray → Bool} {c : Nat} (h : MarksAt w pm (some b) dn c) : b ≠ pm := by
  intro e
  subst e
  obtain ⟨cs, hc, _⟩ := h.row
  obtain ⟨D, ⟨es, clock, hb, _⟩, _⟩ := h.map b rfl
  rw [hc] at hb
  simp at hb

theorem MarksAt.later {w w' : World} {pm : Nat} {mb : Option Nat} {dn : ByteArray → Bool} {c : Nat} (h : MarksAt w pm mb dn c) (hb : Below w.heap.size w w') : MarksAt w' pm mb dn c :=
  ⟨h.row.of_block (hb.block _ h.row.lt), h.nil, fun b e => (h.map b e).of_block (hb.block _ (h.map b e).lt)⟩

end Go.Proofs.Qxb6600241a.Dm
