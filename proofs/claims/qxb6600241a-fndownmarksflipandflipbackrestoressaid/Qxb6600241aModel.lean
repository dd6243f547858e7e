/-
  THE LAW's OWN LIST OF ADDRESSES THAT ARE DOWN: its row in memory, what it says, zzB1RemoveAt (18), append within the capacity; and rows that a step on the record leaves alone.
-/
import Derived.Test.Qxb6600241aCopies
import Derived.Deep.DeepAppendRoom
namespace Go.Proofs.Qxb6600241a.Dm
open Go.RowKit Go.Maps

/-! ### rows beside the record -/

/-- a slice of the call's own whose block no step on the record touches. -/
def SafeOwn (w : World) (pm : Nat) (mb : Option Nat) (a : Option Addr) (g : Nat) : Prop := ∀ p, a = some p → Safe w pm mb g

theorem Turn.own {pm : Nat} {m0 m1 : Option Nat} {w w' : World} (T : Turn pm m0 m1 w w') {a : Option Addr} {t : TypeId} {n : Nat} {f : Nat → Value} {g : Nat} (h : Own w a t n f g) (s : SafeOwn w pm m0 a g) : Own w' a t n f g ∧ SafeOwn w' pm m1 a g :=
  ⟨⟨h.nil, fun p hp => ⟨(h.row p hp).1, (h.row p hp).2.of_block (T.keeps (s p hp)).1⟩⟩, fun p hp => (T.keeps (s p hp)).2⟩

theorem Own.grown {w w' : World} {a : Option Addr} {t : TypeId} {n : Nat} {f : Nat → Value} {g R : Nat} (h : Own w a t n f g) (hg : w.grownBy w' (some R)) (hne : ∀ p, a = some p → g ≠ R) : Own w' a t n f g :=
  ⟨h.nil, fun p hp => ⟨(h.row p hp).1, (h.row p hp).2.of_block (hg.block g (h.row p hp).2.lt (by have := hne p hp; simpa using this))⟩⟩

theorem SafeOwn.grown {w w' : World} {pm : Nat} {mb : Option Nat} {a : Option Addr} {g R : Nat} (h : SafeOwn w pm mb a g) (hg : w.grownBy w' (some R)) : SafeOwn w' pm mb a g :=
  fun p hp => ⟨Nat.lt_of_lt_of_le (h p hp).lt hg.size, (h p hp).pm, (h p hp).mb⟩

theorem MarksAt.grown {w w' : World} {pm : Nat} {mb : Option Nat} {dn : ByteArray → Bool} {c R : Nat} (h : MarksAt w pm mb dn c) (hg : w.grownBy w' (some R)) (h1 : R ≠ pm) (h2 : some R ≠ mb) : MarksAt w' pm mb dn c :=
  ⟨h.row.of_block (hg.block pm h.row.lt (by simpa using fun e => h1 e.symm)), h.nil, fun b e => (h.map b e).of_block (hg.block b (h.map b e).lt (by rw [← e]; exact fun e => h2 e.symm))⟩

theorem grown_setCell (w : World) (a : Addr) (v : Value) : w.grownBy (w.setCell a v) (some a.block) :=
  ⟨rfl, rfl, rfl, by simp [World.setCell], fun k _ hk => Below.heap_setCell w a v k (fun e => hk (by rw [e]))⟩

/-! ### the list -/

/-- the row of block R holds the l addresses M, in a capacity of cap. -/
structure ListAt (w : World) (R cap l : Nat) (M : Nat → ByteArray) : Prop where
  row : ∃ f, w.rowIs R 9 cap f ∧ ∀ j, j < l → f j = .string (M j)
  le : l ≤ cap

theorem ListAt.lt {w : World} {R cap l : Nat} {M : Nat → ByteArray} (h : ListAt w R cap l M) : R < w.heap.size := by
  obtain ⟨f, hf, _⟩ := h.row; exact hf.lt

theorem ListAt.of_block {w w' : World} {R cap l : Nat} {M : Nat → ByteArray} (h : ListAt w R cap l M) (e : w'.heap[R]? = w.heap[R]?) : ListAt w' R cap l M := by
  obtain ⟨f, hf, hm⟩ := h.row; exact ⟨⟨f, hf.of_block e, hm⟩, h.le⟩

theorem ListAt.cells {w : World} {R cap l : Nat} {M : Nat → ByteArray} (h : ListAt w R cap l M) : Cells w (some ⟨R, 0, none⟩) l (fun i => .string (M i)) := by
  obtain ⟨f, hf, hm⟩ := h.row
  refine ⟨(fun e => by cases e), fun p hp i hi => ?_⟩
  simp only [Option.some.injEq] at hp
  subst hp
  rw [add_none, Nat.zero_add, hf.cell (by have := h.le; omega), hm i hi]

theorem ListAt.owns {w : World} {R cap l : Nat} {M : Nat → ByteArray} (h : ListAt w R cap l M) (hc : cap ≤ maxLen) : w.ownsRow 0 9 1 (.slice (some ⟨R, 0, none⟩) l cap) l ((List.range l).map fun j => Value.string (M j)) := by
  obtain ⟨f, ⟨cs, hb, hsz, hcs⟩, hm⟩ := h.row
  have hle := h.le
  refine ⟨by simp, Or.inr ⟨R, cap, cs, rfl, Nat.zero_le _, hb, hle, hc, by omega, ?_⟩⟩
  apply List.ext_getElem?
  intro i
  rw [List.getElem?_take, Nat.mul_one]
  by_cases hi : i < l
  · rw [if_pos hi]
    simp only [List.getElem?_map, List.getElem?_range hi, Option.map_some, Array.getElem?_toList]
    rw [hcs i (by omega), hm i hi]
  · rw [if_neg hi]
    simp [hi]

theorem listAt_of_owns {w : World} {R cap l : Nat} {M : Nat → ByteArray} (h : w.ownsRow 0 9 1 (.slice (some ⟨R, 0, none⟩) l cap) l ((List.range l).map fun j => Value.string (M j))) : ListAt w R cap l M := by
  obtain ⟨_, h⟩ := h
  rcases h with ⟨e, _⟩ | ⟨g, cap', cur, e, _, hb, hle, _, hsz, htake⟩
  · cases e
  · simp only [Value.slice.injEq, Option.some.injEq, Addr.mk.injEq] at e
    obtain ⟨⟨rfl, _, _⟩, _, rfl⟩ := e
    refine ⟨⟨fun i => cur.getD i undef, ⟨cur, hb, by omega, fun i hi => ?_⟩, fun j hj => ?_⟩, hle⟩
    · have : i < cur.size := by omega
      simp [Array.getD, this]
    · have h1 := congrArg (fun l : List Value => l[j]?) htake
      simp only [List.getElem?_take, Nat.mul_one, if_pos hj, List.getElem?_map, List.getElem?_range hj, Option.map_some, Array.getElem?_toList] at h1
      simp [Array.getD_eq_getD_getElem?, h1]

/-- the list with one address more. -/
def push (l : Nat) (M : Nat → ByteArray) (s : ByteArray) (j : Nat) : ByteArray := if j = l then s else M j

theorem push_list (l : Nat) (M : Nat → ByteArray) (s : ByteArray) : ((List.range l).map fun j => Value.string (M j)) ++ [Value.string s] = (List.range (l + 1)).map fun j => Value.string (push l M s j) := by
  rw [List.range_succ, List.map_append]
  congr 1
  · apply List.map_congr_left
    intro j hj
    have : j < l := List.mem_range.1 hj
    simp [push, show ¬ j = l by omega]
  · simp [push]

/-- the list without the address at i: the last one takes its place. -/
def pull (l i : Nat) (M : Nat → ByteArray) (j : Nat) : ByteArray := if j = i then M (l - 1) else M j

theorem ListAt.pulled {w : World} {R cap l i : Nat} {M : Nat → ByteArray} (h : ListAt w R cap l M) (hi : i < l) : ListAt (w.setCell ⟨R, i, none⟩ (.string (M (l - 1)))) R cap (l - 1) (pull l i M) := by
  obtain ⟨f, hf, hm⟩ := h.row
  refine ⟨⟨_, hf.set i _, fun j hj => ?_⟩, by have := h.le; omega⟩
  unfold pull
  by_cases e : j = i
  · simp [e]
  · simp only [if_neg e]; exact hm j (by omega)

set_option maxHeartbeats 400000 in
theorem removeAt18 (R cap l i : Nat) (M : Nat → ByteArray) (w : World) (h : ListAt w R cap l M) (hi : i < l) (hc : cap ≤ 4096) :
    Calls Try.prog 18 #[.slice (some ⟨R, 0, none⟩) l cap, .int .i64 i] w fun e w' => e = .returned (.slice (some ⟨R, 0, none⟩) (l - 1) cap) ∧ w' = w.setCell ⟨R, i, none⟩ (.string (M (l - 1))) := by
  obtain ⟨f, hf, hm⟩ := h.row
  have hle := h.le
  have h1 := hf.cell (i := l - 1) (by omega)
  rw [hm (l - 1) (by omega)] at h1
  obtain ⟨u, h2⟩ : ∃ u, w.cell? ⟨R, i, none⟩ = some u := ⟨_, hf.cell (i := i) (by omega)⟩
  have h3 := hf.frozen i
  have hil : (i : Int) < (l : Int) := by omega
  have hlast : ((l : Int) - 1) = ((l - 1 : Nat) : Int) := by omega
  clear h hf hm
  go_enter Try.func18, Try.ntmps18
  go_wp2
  go_ret
  exact ⟨rfl, rfl⟩

/-! ### what the list says -/

/-- the list holds each address that is down, once. -/
structure Model (dn : ByteArray → Bool) (l : Nat) (M : Nat → ByteArray) : Prop where
  inj : ∀ i j, i < l → j < l → M i = M j → i = j
  mem : ∀ s, dn s = true ↔ ∃ i, i < l ∧ M i = s

theorem model_empty (M : Nat → ByteArray) : Model (fun _ => false) 0 M :=
  ⟨fun i j hi _ _ => by omega, fun s => ⟨(fun h => by cases h), fun ⟨i, hi, _⟩ => by omega⟩⟩

theorem Model.push {dn : ByteArray → Bool} {l : Nat} {M : Nat → ByteArray} (h : Model dn l M) (a : ByteArray) (ha : dn a = false) : Model (upd dn a true) (l + 1) (push l M a) := by
  have hno : ∀ i, i < l → M i ≠ a := fun i hi e => by
    have := (h.mem a).2 ⟨i, hi, e⟩
    rw [ha] at this; cases this
  refine ⟨fun i j hi hj e => ?_, fun s => ?_⟩
  · unfold Dm.push at e
    by_cases h1 : i = l
    · by_cases h2 : j = l
      · omega
      · rw [if_pos h1, if_neg h2] at e
        exact absurd e.symm (hno j (by omega))
    · by_cases h2 : j = l
      · rw [if_neg h1, if_pos h2] at e
        exact absurd e (hno i (by omega))
      · rw [if_neg h1, if_neg h2] at e
        exact h.inj i j (by omega) (by omega) e
  · unfold upd
    by_cases e : s = a
    · subst e
      rw [if_pos rfl]
      exact ⟨fun _ => ⟨l, by omega, by simp [Dm.push]⟩, fun _ => rfl⟩
    · rw [if_neg e, h.mem s]
      constructor
      · rintro ⟨i, hi, hm⟩
        exact ⟨i, by omega, by unfold Dm.push; rw [if_neg (by omega)]; exact hm⟩
      · rintro ⟨i, hi, hm⟩
        unfold Dm.push at hm
        by_cases h1 : i = l
        · rw [if_pos h1] at hm; exact absurd hm.symm e
        · rw [if_neg h1] at hm; exact ⟨i, by omega, hm⟩

theorem Model.pull {dn : ByteArray → Bool} {l : Nat} {M : Nat → ByteArray} (h : Model dn l M) {i : Nat} (hi : i < l) (a : ByteArray) (ha : M i = a) : Model (upd dn a false) (l - 1) (pull l i M) := by
  refine ⟨fun j k hj hk e => ?_, fun s => ?_⟩
  · unfold Dm.pull at e
    by_cases h1 : j = i
    · by_cases h2 : k = i
      · omega
      · rw [if_pos h1, if_neg h2] at e
        have := h.inj (l - 1) k (by omega) (by omega) e; omega
    · by_cases h2 : k = i
      · rw [if_neg h1, if_pos h2] at e
        have := h.inj j (l - 1) (by omega) (by omega) e; omega
      · rw [if_neg h1, if_neg h2] at e
        exact h.inj j k (by omega) (by omega) e
  · unfold upd
    by_cases e : s = a
    · subst e
      rw [if_pos rfl]
      refine ⟨(fun h => by cases h), ?_⟩
      rintro ⟨j, hj, hm⟩
      exfalso
      unfold Dm.pull at hm
      by_cases h1 : j = i
      · rw [if_pos h1] at hm
        have := h.inj (l - 1) i (by omega) hi (hm.trans ha.symm); omega
      · rw [if_neg h1] at hm
        exact h1 (h.inj j i (by omega) hi (hm.trans ha.symm))
    · rw [if_neg e, h.mem s]
      constructor
      · rintro ⟨k, hk, hm⟩
        have hki : k ≠ i := fun e2 => e (by rw [← hm, e2, ha])
        by_cases h1 : k = l - 1
        · exact ⟨i, by omega, by unfold Dm.pull; rw [if_pos rfl, ← h1]; exact hm⟩
        · exact ⟨k, by omega, by unfold Dm.pull; rw [if_neg hki]; exact hm⟩
      · rintro ⟨j, hj, hm⟩
        unfold Dm.pull at hm
        by_cases h1 : j = i
        · rw [if_pos h1] at hm; exact ⟨l - 1, by omega, hm⟩
        · rw [if_neg h1] at hm; exact ⟨j, by omega, hm⟩

theorem Model.not_found {dn : ByteArray → Bool} {l : Nat} {M : Nat → ByteArray} (h : Model dn l M) {s : ByteArray} (hn : ∀ i, i < l → M i ≠ s) : dn s = false := by
  cases e : dn s with
  | false => rfl
  | true =>
    obtain ⟨i, hi, hm⟩ := (h.mem s).1 e
    exact absurd hm (hn i hi)

theorem Model.found {dn : ByteArray → Bool} {l : Nat} {M : Nat → ByteArray} (h : Model dn l M) {s : ByteArray} {i : Nat} (hi : i < l) (hm : M i = s) : dn s = true := (h.mem s).2 ⟨i, hi, hm⟩

/-! ### all that the loops carry beside the record -/

structure Base (w wr : World) (pm R : Nat) (mb : Option Nat) (a d : Option Addr) (n m : Nat) (S : Nat → ByteArray) (T : Nat → Bool) (gA gD : Nat) : Prop where
  own1 : Own wr a 9 n (fun i => .string (S i)) gA
  own2 : Own wr d 4 m (fun i => .bool (T i)) gD
  s1 : SafeOwn wr pm mb a gA
  s2 : SafeOwn wr pm mb d gD
  sR : Safe wr pm mb R
  n1 : ∀ p, a = some p → gA ≠ R
  n2 : ∀ p, d = some p → gD ≠ R
  bel : Below w.heap.size w wr
  hpm : w.heap.size ≤ pm
  hR : w.heap.size ≤ R
  hmb : ∀ k, mb = some k → w.heap.size ≤ k

theorem Base.turn {w wr w1 : World} {pm R : Nat} {mb m1 : Option Nat} {a d : Option Addr} {n m : Nat} {S : Nat → ByteArray} {T : Nat → Bool} {gA gD : Nat} (h : Base w wr pm R mb a d n m S T gA gD) (t : Turn pm mb m1 wr w1) :
    Base w w1 pm R m1 a d n m S T gA gD :=
  ⟨(t.own h.own1 h.s1).1, (t.own h.own2 h.s2).1, (t.own h.own1 h.s1).2, (t.own h.own2 h.s2).2, (t.keeps h.sR).2, h.n1, h.n2, t.below h.bel h.bel.size h.hpm h.hmb, h.hpm, h.hR, t.base h.bel.size h.hmb⟩

theorem Base.grown {w wr w1 : World} {pm R : Nat} {mb : Option Nat} {a d : Option Addr} {n m : Nat} {S : Nat → ByteArray} {T : Nat → Bool} {gA gD : Nat} (h : Base w wr pm R mb a d n m S T gA gD) (hg : wr.grownBy w1 (some R)) :
    Base w w1 pm R mb a d n m S T gA gD :=
  ⟨h.own1.grown hg h.n1, h.own2.grown hg h.n2, h.s1.grown hg, h.s2.grown hg, ⟨Nat.lt_of_lt_of_le h.sR.lt hg.size, h.sR.pm, h.sR.mb⟩, h.n1, h.n2, h.bel.grown hg h.bel.size (fun k e => by cases e; exact h.hR), h.hpm, h.hR, h.hmb⟩

/-- 'make([]string, 0, n)'. -/
theorem make0 (n : Nat) (hn : n ≤ 4096) : ∃ cs : Array Value, ∀ w : World, (Instr.makeSlice 22 (.int .i64 0) (.int .i64 (n : Int))).run Try.prog w = .ok (.slice (some ⟨w.heap.size, 0, none⟩) 0 n) (w.alloc (.cells (madeCells cs n) 9)) := by
  obtain ⟨i, hi, hz, hs, hb⟩ := info_parts info9
  refine ⟨(Value.string ByteArray.empty).cells, fun w => ?_⟩
  have hr := run_make (P := Try.prog) w 22 9 i (.string ByteArray.empty) Try.underlying22 hi hz .i64 .i64 0 n (by omega) (by omega) (by rw [hb]; omega) (by omega)
  simp only [Int.toNat_natCast, hs, Nat.mul_one] at hr
  exact hr

theorem listAt_made (w : World) (cs : Array Value) (n : Nat) (M : Nat → ByteArray) : ListAt (w.alloc (.cells (madeCells cs n) 9)) w.heap.size n 0 M :=
  ⟨⟨fun i => cs[i % cs.size]!, ⟨_, Go.Deep.blk_alloc_new _ _, size_madeCells _ _, fun i hi => by simp [madeCells, hi]⟩, fun j hj => by omega⟩, Nat.zero_le _⟩

end Go.Proofs.Qxb6600241a.Dm
