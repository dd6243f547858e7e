/-
  WHAT LAWS 4 AND 5 CARRY BEHIND zzB1Play AND zzB1Marks.
-/
import Derived.Test.Qxb6600241aPlay
namespace Go.Proofs.Qxb6600241a.Dm
open Go.RowKit Go.Maps

theorem MarksAt.pos {w : World} {pm : Nat} {mb : Option Nat} {dn : ByteArray → Bool} {c : Nat} (h : MarksAt w pm mb dn c) {s : ByteArray} (hs : s.size ≤ maxLen) (e : dn s = true) : 1 ≤ c := by
  cases mb with
  | none => rw [(h.nil rfl).1] at e; cases e
  | some b =>
    obtain ⟨D, _, hc, hr⟩ := h.map b rfl
    have h1 := hr.has_ s hs
    rw [e] at h1
    rw [← hc]
    cases D with
    | map es =>
      rw [has_eq] at h1
      rw [size_eq]
      cases es with
      | nil => cases h1
      | cons x xs => simp
    | _ => cases h1

structure Aft (w wr : World) (pm : Nat) (mb : Option Nat) (dn : ByteArray → Bool) (c : Nat) (a : Option Addr) (n : Nat) (S : Nat → ByteArray) (gA R : Nat) (f : Nat → Value) : Prop where
  ma : MarksAt wr pm mb dn c
  own : Own wr a 9 n (fun i => .string (S i)) gA
  so : SafeOwn wr pm mb a gA
  row : wr.rowIs R 4 n f
  sR : Safe wr pm mb R
  bel : Below w.heap.size w wr
  hpm : w.heap.size ≤ pm
  hmb : ∀ k, mb = some k → w.heap.size ≤ k

theorem Aft.set {w wr w1 : World} {pm : Nat} {mb : Option Nat} {dn : ByteArray → Bool} {c : Nat} {a : Option Addr} {n : Nat} {S : Nat → ByteArray} {gA R : Nat} {f : Nat → Value} (h : Aft w wr pm mb dn c a n S gA R f) {s : ByteArray} {d : Bool} (hp : SetPost pm mb dn c s d wr w1) :
    ∃ mb', Aft w w1 pm mb' (upd dn s d) (cnt dn s d c) a n S gA R f := by
  obtain ⟨mb', hm, t⟩ := hp
  exact ⟨mb', hm, (t.own h.own h.so).1, (t.own h.own h.so).2, h.row.of_block (t.keeps h.sR).1, (t.keeps h.sR).2, t.below h.bel h.bel.size h.hpm h.hmb, h.hpm, t.base h.bel.size h.hmb⟩

theorem Aft.same {w wr w1 : World} {pm : Nat} {mb : Option Nat} {dn : ByteArray → Bool} {c : Nat} {a : Option Addr} {n : Nat} {S : Nat → ByteArray} {gA R : Nat} {f : Nat → Value} (h : Aft w wr pm mb dn c a n S gA R f) {s : ByteArray} {d : Bool} (hd : dn s = d) (hp : SetPost pm mb dn c s d wr w1) :
    ∃ mb', Aft w w1 pm mb' dn c a n S gA R f := by
  obtain ⟨mb', h'⟩ := h.set hp
  rw [upd_same hd] at h'
  have hc : cnt dn s d c = c := by simp [cnt, hd]
  rw [hc] at h'
  exact ⟨mb', h'⟩

/-- set to the other, set back: all is as it was. -/
theorem upd_back {dn : ByteArray → Bool} {s : ByteArray} {x d : Bool} (h : dn s = d) : upd (upd dn s x) s d = dn := by
  funext t
  unfold upd
  by_cases e : t = s
  · subst e; rw [if_pos rfl, h]
  · rw [if_neg e, if_neg e]

theorem Aft.back {w wr w1 : World} {pm : Nat} {mb : Option Nat} {dn : ByteArray → Bool} {c : Nat} {a : Option Addr} {n : Nat} {S : Nat → ByteArray} {gA R : Nat} {f : Nat → Value} {s : ByteArray} {d : Bool} (hd : dn s = d) (hpos : d = true → 1 ≤ c)
    (h : Aft w wr pm mb (upd dn s (!d)) (cnt dn s (!d) c) a n S gA R f) (hp : SetPost pm mb (upd dn s (!d)) (cnt dn s (!d) c) s d wr w1) :
    ∃ mb', Aft w w1 pm mb' dn c a n S gA R f := by
  obtain ⟨mb', h'⟩ := h.set hp
  rw [upd_back hd] at h'
  have hc : cnt (upd dn s (!d)) s d (cnt dn s (!d) c) = c := by
    cases d with
    | true => have := hpos rfl; simp [cnt, upd, hd]; omega
    | false => simp [cnt, upd, hd]
  rw [hc] at h'
  exact ⟨mb', h'⟩

theorem aft {w w2 w4 w5 : World} {a : Option Addr} {n c : Nat} {S : Nat → ByteArray} {gA : Nat} {mb : Option Nat} {dn : ByteArray → Bool} {f : Nat → Value} (own1 : Own w2 a 9 n (fun i => .string (S i)) gA) (bel : Below w.heap.size w w2)
    (tu : Turn w2.heap.size none mb (w2.alloc (.cells #[.map none] 32)) w4) (ma : MarksAt w4 w2.heap.size mb dn c) (row : w5.rowIs w4.heap.size 4 n f) (b5 : Below w4.heap.size w4 w5) :
    Aft w w5 w2.heap.size mb dn c a n S gA w4.heap.size f := by
  have b1 : Below w2.heap.size w2 (w2.alloc (.cells #[.map none] 32)) := (Below.refl _ _).alloc (Nat.le_refl _) _
  have sz1 : (w2.alloc (.cells #[.map none] 32)).heap.size = w2.heap.size + 1 := by simp
  have o1 := own1.later b1
  have s1 : SafeOwn (w2.alloc (.cells #[.map none] 32)) w2.heap.size none a gA := fun p hp => by
    have := own_below own1 p hp
    exact ⟨by omega, by omega, by simp⟩
  obtain ⟨o4, s4⟩ := tu.own o1 s1
  have hsz := tu.size
  have h0 := bel.size
  have b4 : Below w.heap.size w w4 := tu.below (bel.trans (b1.mono bel.size)) (by omega) bel.size (fun k e => by cases e)
  have hmb : ∀ k, mb = some k → w.heap.size ≤ k := tu.base (by omega) (fun k e => by cases e)
  refine ⟨ma.later b5, o4.later b5, fun p hp => ?_, row, ⟨row.lt, by omega, fun e => ?_⟩, b4.trans (b5.mono b4.size), bel.size, hmb⟩
  · exact ⟨Nat.lt_of_lt_of_le (s4 p hp).lt b5.size, (s4 p hp).pm, (s4 p hp).mb⟩
  · have := (ma.map _ e.symm).lt
    omega

end Go.Proofs.Qxb6600241a.Dm
