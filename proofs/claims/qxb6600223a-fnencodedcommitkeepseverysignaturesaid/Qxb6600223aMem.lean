/-
  MEMORY WORDS FOR ROWS WHOSE ELEMENTS TAKE SEVERAL CELLS: 'setCells' on a row that is known by the index; make at such an element type.
-/
import Derived.Test.Qxb6600223aClone
import Derived.Deep.MidRow
import Derived.Deep.WholeRow
namespace Go.Proofs.Qxb6600223a.TxW
open Go.RowKit

theorem below_setCells {B : Nat} {a : World} (b : Nat) (hb : B ≤ b) : ∀ (vs : List Value) (o : Nat) (w : World), Below B a w → Below B a (w.setCells b o vs)
  | [], _, _, h => h
  | v :: r, o, w, h => by
    rw [World.setCells]
    exact below_setCells b hb r (o + 1) _ (h.setCell hb v)

theorem size_setCells (b : Nat) : ∀ (vs : List Value) (o : Nat) (w : World), (w.setCells b o vs).heap.size = w.heap.size
  | [], _, _ => rfl
  | v :: r, o, w => by rw [World.setCells, size_setCells b r]; simp [World.setCell]

theorem heap_setCells_far (b : Nat) {k : Nat} (hk : k ≠ b) : ∀ (vs : List Value) (o : Nat) (w : World), (w.setCells b o vs).heap[k]? = w.heap[k]?
  | [], _, _ => rfl
  | v :: r, o, w => by rw [World.setCells, heap_setCells_far b hk r]; exact Below.heap_setCell w _ v k hk

/-- several cells of a row stored. -/
theorem rowIs_setCells {b : Nat} {t : TypeId} {n : Nat} : ∀ (vs : List Value) (o : Nat) (w : World) (f : Nat → Value), w.rowIs b t n f →
    (w.setCells b o vs).rowIs b t n (fun j => if o ≤ j ∧ j < o + vs.length then vs.getD (j - o) undef else f j)
  | [], o, w, f, h => h.congr fun j _ => by rw [if_neg (by simp)]
  | v :: r, o, w, f, h => by
    rw [World.setCells]
    refine (rowIs_setCells r (o + 1) _ _ (h.set o v)).congr fun j _ => ?_
    by_cases h1 : j = o
    · subst h1
      rw [if_neg (by omega), if_pos rfl, if_pos (by simp)]
      simp
    · by_cases h2 : o + 1 ≤ j ∧ j < o + 1 + r.length
      · rw [if_pos h2, if_pos (by simp; omega)]
        rw [show j - o = (j - (o + 1)) + 1 by omega]
        rfl
      · rw [if_neg h2, if_neg h1, if_neg (by simp; omega)]

theorem rowIs_setCells_far {w : World} {b : Nat} {t : TypeId} {n : Nat} {f : Nat → Value} (h : w.rowIs b t n f) {b' : Nat} (hb : b ≠ b') (o : Nat) (vs : List Value) : (w.setCells b' o vs).rowIs b t n f :=
  h.of_block (heap_setCells_far b' hb vs o w)

theorem there_row {w : World} {b : Nat} {t : TypeId} {n : Nat} {f : Nat → Value} (h : w.rowIs b t n f) (o k : Nat) (hk : o + k ≤ n) : w.there b o k := fun j hj =>
  ⟨by rw [h.cell (i := o + j) (by omega)]; rfl, h.frozen _⟩

theorem range_row {w : World} {b : Nat} {t : TypeId} {n : Nat} {f : Nat → Value} (h : w.rowIs b t n f) (o k : Nat) (hk : o + k ≤ n) : w.rangeAt b o ((List.range k).map fun j => f (o + j)) := fun j v hv => by
  simp only [List.getElem?_map] at hv
  by_cases hj : j < k
  · simp [hj] at hv
    rw [h.cell (i := o + j) (by omega), hv]
  · simp [hj] at hv

/-- 'make([]T, n)', T of several cells: a new row at the heap's end. -/
theorem run_make_wide {P : Program} (t e : TypeId) (z : Value) (size bytes : Nat) (ht : P.underlying t = some (.slice e)) (hinfo : (P.info? e).map (fun i => (i.zero, i.size, i.bytes)) = some (some z, size, bytes))
    (n : Nat) (hbytes : bytes * n ≤ 281474976710656) (h63 : n ≤ 9223372036854775807) (w : World) :
    (Instr.makeSlice t (.int .i64 (n : Int)) (.int .i64 (n : Int))).run P w = .ok (.slice (some ⟨w.heap.size, 0, none⟩) n n) (w.alloc (.cells (madeCells z.cells (n * size)) e)) := by
  obtain ⟨i, hi, hzz⟩ := Option.map_eq_some_iff.1 hinfo
  simp only [Prod.mk.injEq] at hzz
  obtain ⟨hz, hs, hb⟩ := hzz
  have hb' : (i.bytes : Int) * (n : Int) ≤ 281474976710656 := by
    have h : ((i.bytes * n : Nat) : Int) ≤ 281474976710656 := by rw [hb]; omega
    rwa [Int.natCast_mul] at h
  have hr := run_make (P := P) w t e i z ht hi hz .i64 .i64 n n (by omega) (Int.le_refl _) hb' (by omega)
  simp only [Int.toNat_natCast, hs] at hr
  exact hr

/-- a wide load and a wide store, at an operation that is written out: where another operation stands they fail at once. -/
theorem ld_wide {P : Program} {ops : Array Oper} {rest : List Oper} {a : Act} {w : World} {Q : Exit → Act → World → Prop} {dst : Option Tmp} {ty : TypeId} {ps : String} {af : Array Edge} (T : TypeId) (x : Tmp)
    (b o : Nat) (hx : a.eval (.tmp x) = .pointer (some ⟨b, o, none⟩)) (cs : List Value) (d : TypeDesc) (hc : w.rangeAt b o cs) (hu : P.underlying T = some d) (hd : d.isRow = true) (hi : (P.info? T).map (·.size) = some cs.length)
    (h : wpList P ops Q rest (a.put dst (.agg cs.toArray)) w) : wpList P ops Q (⟨dst, .load T (.tmp x), ty, ps, af, none⟩ :: rest) a w :=
  wpList_load_mid rfl T (.tmp x) rfl b o hx cs d hc hu hd hi h

theorem st_wide {P : Program} {ops : Array Oper} {rest : List Oper} {a : Act} {w : World} {Q : Exit → Act → World → Prop} {ty : TypeId} {ps : String} {af : Array Edge} (T : TypeId) (x y : Tmp)
    (b o : Nat) (cs : List Value) (hx : a.eval (.tmp x) = .pointer (some ⟨b, o, none⟩)) (hy : a.eval (.tmp y) = .agg cs.toArray) (ht : w.there b o cs.length) (hi : (P.info? T).map (·.size) = some cs.length)
    (h1 : ∀ v ∈ cs, v.oneCell' = true) (h : wpList P ops Q rest (a.put none undef) (w.setCells b o cs)) : wpList P ops Q (⟨none, .store T (.tmp x) (.tmp y), ty, ps, af, none⟩ :: rest) a w :=
  wpList_store_mid rfl T (.tmp x) (.tmp y) rfl b o cs.toArray hx hy (by simpa using ht) (by simpa using hi) (all_oneCell_toArray h1) (by simpa using h)

/-- a wide store into the block that was made last. -/
theorem st_new {P : Program} {ops : Array Oper} {rest : List Oper} {a : Act} {w : World} {Q : Exit → Act → World → Prop} {ty : TypeId} {ps : String} {af : Array Edge} (T : TypeId) (x y : Tmp)
    (c : Array Value) (cs : List Value) (hx : a.eval (.tmp x) = .pointer (some ⟨w.heap.size, 0, none⟩)) (hy : a.eval (.tmp y) = .agg cs.toArray) (hi : (P.info? T).map (·.size) = some cs.length) (ho : c.size = cs.length)
    (h1 : ∀ v ∈ cs, v.oneCell' = true) (h : wpList P ops Q rest (a.put none undef) (w.alloc (.cells cs.toArray T))) : wpList P ops Q (⟨none, .store T (.tmp x) (.tmp y), ty, ps, af, none⟩ :: rest) a (w.alloc (.cells c T)) :=
  wpList_plain rfl fun K hK => by
    have hrun := run_storeAt_new (P := P) w T c cs.toArray (by simpa using hi) (by simpa using ho) (all_oneCell_toArray h1)
    unfold Oper.wp execOp
    simp only [hx, hy, Sem.run_bind, Sem.run_pure, Result.andThen_ok, hrun]
    exact hK _ _ h

theorem made_row (w : World) (z : Array Value) (n : Nat) (t : TypeId) : ∃ f, (w.alloc (.cells (madeCells z n) t)).rowIs w.heap.size t n f :=
  ⟨fun i => z[i % z.size]!, _, Go.Deep.blk_alloc_new _ _, size_madeCells _ _, fun i hi => by simp [madeCells, hi]⟩

end Go.Proofs.Qxb6600223a.TxW
