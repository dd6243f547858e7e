/-
  THE WALKS OF (*DownMarks).Set (30), ZZDownMarksSet (17), ZZDownMarksIsDown (19), ZZDownMarksCount (20).
-/
import Derived.Test.Qxb6600241aMarks
namespace Go.Proofs.Qxb6600241a.Dm
open Go.RowKit Go.Maps

set_option maxHeartbeats 400000 in
theorem isDown19 (pm : Nat) (mb : Option Nat) (dn : ByteArray → Bool) (c : Nat) (s : ByteArray) (w : World) (h : MarksAt w pm mb dn c) (hs : s.size ≤ maxLen) :
    Calls Try.prog 19 #[.pointer (some ⟨pm, 0, none⟩), .string s] w fun e w' => e = .returned (.bool (dn s)) ∧ w' = w := by
  have hl := h.look s hs
  obtain ⟨hc, _⟩ := h.cell
  clear h
  go_enter Try.func19, Try.ntmps19
  go_wp2
  go_ret
  exact ⟨rfl, rfl⟩

set_option maxHeartbeats 400000 in
theorem count20 (pm : Nat) (mb : Option Nat) (dn : ByteArray → Bool) (c : Nat) (w : World) (h : MarksAt w pm mb dn c) :
    Calls Try.prog 20 #[.pointer (some ⟨pm, 0, none⟩)] w fun e w' => e = .returned (.int .i64 c) ∧ w' = w := by
  have hl := fun ty => h.len ty
  obtain ⟨hc, _⟩ := h.cell
  clear h
  go_enter Try.func20, Try.ntmps20
  go_wp2
  go_ret
  exact ⟨rfl, rfl⟩

/-- what a Set leaves. -/
def SetPost (pm : Nat) (mb : Option Nat) (dn : ByteArray → Bool) (c : Nat) (s : ByteArray) (d : Bool) (w w' : World) : Prop :=
  ∃ mb', MarksAt w' pm mb' (upd dn s d) (cnt dn s d c) ∧ Turn pm mb mb' w w'

theorem upd_same {dn : ByteArray → Bool} {s : ByteArray} {d : Bool} (h : dn s = d) : upd dn s d = dn := by
  funext t
  unfold upd
  by_cases e : t = s
  · subst e; rw [if_pos rfl, h]
  · rw [if_neg e]

theorem post_same {pm : Nat} {mb : Option Nat} {dn : ByteArray → Bool} {c : Nat} {s : ByteArray} {d : Bool} {w : World} (h : MarksAt w pm mb dn c) (e : dn s = d) : SetPost pm mb dn c s d w w := by
  refine ⟨mb, ?_, Turn.refl _ _ _⟩
  rw [upd_same e]
  unfold cnt
  rw [if_pos e]
  exact h

/-- the first mark: a new map. -/
theorem post_first {pm : Nat} {dn : ByteArray → Bool} {c : Nat} {s : ByteArray} {w w1 : World} (h : MarksAt w pm none dn c)
    (ho : ∃ n, w1.ownsMap Try.prog 9 (plainElem Try.prog 4) w.heap.size n ((DataW.map [] : DataW Unit).put (ky s) (.lit (.bool true)))) (hg : ((w.setCell ⟨pm, 0, none⟩ (.map (some w.heap.size))).alloc (.map #[] 0)).grownBy w1 (some w.heap.size)) :
    SetPost pm none dn c s true w w1 := by
  obtain ⟨n, ho⟩ := ho
  obtain ⟨rfl, rfl⟩ := h.nil rfl
  have hpm := h.row.lt
  have hsz : ((w.setCell ⟨pm, 0, none⟩ (.map (some w.heap.size))).alloc (.map #[] 0)).heap.size = w.heap.size + 1 := by simp [World.setCell]
  have ht := tight ho
  have htd : Tidy (DataW.map [] : DataW Unit) := tidy_empty
  have hszp : Maps.size ((DataW.map [] : DataW Unit).put (ky s) (.lit (.bool true))) = 1 := by rw [size_put htd]; rfl
  refine ⟨some w.heap.size, ⟨?_, (fun e => by cases e), fun b e => ?_⟩, ⟨?_, ?_, ?_, ?_, fun k hk h1 _ => ?_, Or.inr ⟨_, rfl, Nat.le_refl _⟩⟩⟩
  · have h1 := (h.row.set 0 (.map (some w.heap.size))).alloc (.map #[] 0)
    have h2 := h1.of_block (hg.block pm (by omega) (by simp; omega))
    exact h2.congr fun i hi => by rw [if_pos (by omega)]
  · simp only [Option.some.injEq] at e
    subst e
    refine ⟨(DataW.map [] : DataW Unit).put (ky s) (.lit (.bool true)), ?_, ?_, ?_⟩
    · have e1 : cnt (fun _ => false) s true 0 = 1 := by simp [cnt]
      rw [e1, ← hszp]; exact ht
    · rw [hszp]; simp [cnt]
    · exact Reads.put ⟨fun _ _ => rfl, fun _ _ => rfl⟩ ⟨_, rfl⟩ s
  · exact hg.os
  · exact hg.tape
  · exact hg.output
  · have := hg.size; omega
  · rw [hg.block k (by omega) (by simp; omega), Below.heap_alloc _ _ _ (by simp [World.setCell]; omega), Below.heap_setCell _ _ _ _ h1]

/-- a further mark. -/
theorem post_more {pm b : Nat} {dn : ByteArray → Bool} {c : Nat} {s : ByteArray} {w w1 : World} {D : DataW Unit} (h : MarksAt w pm (some b) dn c) (hs : s.size ≤ maxLen) (hd : dn s = false)
    (hD : w.ownsMap Try.prog 9 (plainElem Try.prog 4) b c D) (hsz : Maps.size D = c) (hr : Reads D dn) (ho : w1.ownsMap Try.prog 9 (plainElem Try.prog 4) b (c + 1) (D.put (ky s) (.lit (.bool true)))) (hg : w.grownBy w1 (some b)) :
    SetPost pm (some b) dn c s true w w1 := by
  have hne := h.ne
  have e1 : cnt dn s true c = c + 1 := by simp [cnt, hd]
  have hsp : Maps.size (D.put (ky s) (.lit (.bool true))) = c + 1 := by rw [size_put (hD.tidy law), hr.has_ s hs, hd, hsz]; rfl
  refine ⟨some b, ⟨h.row.of_block (hg.block pm h.row.lt (by simp; omega)), (fun e => by cases e), fun b' e => ?_⟩, ⟨hg.os, hg.tape, hg.output, hg.size, fun k hk _ h2 => hg.block k hk h2, Or.inl rfl⟩⟩
  simp only [Option.some.injEq] at e
  subst e
  rw [e1]
  exact ⟨_, ho, hsp, hr.put hD.isMap s⟩

/-- a mark taken back. -/
theorem post_less {pm b : Nat} {dn : ByteArray → Bool} {c : Nat} {s : ByteArray} {w w1 : World} {D : DataW Unit} (h : MarksAt w pm (some b) dn c) (hs : s.size ≤ maxLen) (hd : dn s = true)
    (hD : w.ownsMap Try.prog 9 (plainElem Try.prog 4) b c D) (hsz : Maps.size D = c) (hr : Reads D dn) (ho : w1.ownsMap Try.prog 9 (plainElem Try.prog 4) b c (D.del (ky s))) (ht : w.mapTurned w1 b) :
    SetPost pm (some b) dn c s false w w1 := by
  have hne := h.ne
  have hg := ht.grown
  have e1 : cnt dn s false c = c - 1 := by simp [cnt, hd]
  have hsp : Maps.size (D.del (ky s)) = c - 1 := by
    have := size_del (hD.tidy law) (k := ky s)
    rw [hr.has_ s hs, hd, hsz] at this
    simp at this
    omega
  refine ⟨some b, ⟨h.row.of_block (hg.block pm h.row.lt (by simp; omega)), (fun e => by cases e), fun b' e => ?_⟩, ⟨hg.os, hg.tape, hg.output, hg.size, fun k hk _ h2 => hg.block k hk h2, Or.inl rfl⟩⟩
  simp only [Option.some.injEq] at e
  subst e
  rw [e1]
  exact ⟨_, by rw [← hsp]; exact tight ho, hsp, hr.del s⟩

set_option maxHeartbeats 1000000 in
theorem set30 (pm : Nat) (mb : Option Nat) (dn : ByteArray → Bool) (c : Nat) (s : ByteArray) (d : Bool) (w : World) (h : MarksAt w pm mb dn c) (hs : s.size ≤ maxLen) (hc : c ≤ 1000000) :
    Calls Try.prog 30 #[.pointer (some ⟨pm, 0, none⟩), .string s, .bool d] w fun e w' => e = .returned (.bool (dn s != d)) ∧ SetPost pm mb dn c s d w w' := by
  have hl := h.look s hs
  obtain ⟨hcell, hfz⟩ := h.cell
  have hmm := @run_makeMap Try.prog
  have heq := fun w : World => run_eql_map_nil (P := Try.prog) w 30 9 4 mb Try.underlying30
  by_cases he : dn s = d
  · have hp := post_same h he
    have HP : Hid (SetPost pm mb dn c s d w w) := hp
    have hb : (dn s == d) = true := by simp [he]
    have hb2 : (dn s != d) = false := by simp [he]
    rw [hb2]
    clear h hp he hb2
    go_enter Try.func30, Try.ntmps30
    go_wp2
    go_ret
    exact ⟨rfl, HP.out⟩
  · have hb : (dn s == d) = false := by simpa using he
    have hb2 : (dn s != d) = true := by simpa using he
    rw [hb2]
    cases d with
    | true =>
      have hd : dn s = false := by simpa using he
      cases mb with
      | none =>
        have HH : Hid (MarksAt w pm none dn c) := h
        have HD : Hid (dn s = false) := hd
        have hpm := h.row.lt
        clear h he hb2 hd
        have hmade : ((w.setCell ⟨pm, 0, none⟩ (.map (some w.heap.size))).alloc (.map #[] 0)).ownsMap Try.prog 9 (plainElem (H := Unit) Try.prog 4) w.heap.size 0 (.map []) := by
          have h1 := World.ownsMap_made (w.setCell ⟨pm, 0, none⟩ (.map (some w.heap.size))) Try.prog 9 (plainElem (H := Unit) Try.prog 4)
          simpa [World.setCell] using h1
        have HM : Hid (((w.setCell ⟨pm, 0, none⟩ (.map (some w.heap.size))).alloc (.map #[] 0)).ownsMap Try.prog 9 (plainElem (H := Unit) Try.prog 4) w.heap.size 0 (.map [])) := hmade
        have HS : Hid (s.size ≤ maxLen) := hs
        clear hmade hs
        go_enter Try.func30, Try.ntmps30
        go_wp2_with (at_mapUpdate; refine wpList_mapUpdate_own _ rfl _ _ _ 30 rfl 9 4 law Try.underlying30 _ w.heap.size 0 _ rfl HM.out (by decide) _ _ _ rfl rfl (keyOf_ky s HS.out) _ [] (plainElem_bool Try.underlying4 true) ?_)
        intro w1 ho hg
        have hp := post_first HH.out ⟨_, ho⟩ hg
        have HP : Hid (SetPost pm none dn c s true w w1) := hp
        clear hp ho hg
        go_wp2
        go_ret
        exact ⟨rfl, HP.out⟩
      | some b =>
        obtain ⟨D, hD, hsz, hr⟩ := h.map b rfl
        have HH : Hid (MarksAt w pm (some b) dn c) := h
        have HD : Hid (dn s = false) := hd
        have HO : Hid (w.ownsMap Try.prog 9 (plainElem Try.prog 4) b c D) := hD
        have HR : Hid (Reads D dn) := hr
        have HZ : Hid (Maps.size D = c) := hsz
        have HS : Hid (s.size ≤ maxLen) := hs
        clear h he hb2 hd hD hr hs hsz
        go_enter Try.func30, Try.ntmps30
        go_wp2_with (at_mapUpdate; refine wpList_mapUpdate_own _ rfl _ _ _ 30 rfl 9 4 law Try.underlying30 _ b c _ rfl HO.out (by unfold maxLen; omega) _ _ _ rfl rfl (keyOf_ky s HS.out) _ [] (plainElem_bool Try.underlying4 true) ?_)
        intro w1 ho hg
        have hp := post_more HH.out HS.out HD.out HO.out HZ.out HR.out ho hg
        have HP : Hid (SetPost pm (some b) dn c s true w w1) := hp
        clear hp ho hg
        go_wp2
        go_ret
        exact ⟨rfl, HP.out⟩
    | false =>
      have hd : dn s = true := by simpa using he
      cases mb with
      | none =>
        have := (h.nil rfl).1
        rw [this] at hd
        cases hd
      | some b =>
        obtain ⟨D, hD, hsz, hr⟩ := h.map b rfl
        have HH : Hid (MarksAt w pm (some b) dn c) := h
        have HD : Hid (dn s = true) := hd
        have HO : Hid (w.ownsMap Try.prog 9 (plainElem Try.prog 4) b c D) := hD
        have HR : Hid (Reads D dn) := hr
        have HZ : Hid (Maps.size D = c) := hsz
        have HS : Hid (s.size ≤ maxLen) := hs
        clear h he hb2 hd hD hr hs hsz
        go_enter Try.func30, Try.ntmps30
        go_wp2_with (at_delete; refine wpList_delete_own _ rfl _ _ 30 9 rfl 4 law Try.underlying30 _ b c _ rfl HO.out _ _ rfl (keyOf_ky s HS.out) ?_)
        intro w1 ho hg
        have hp := post_less HH.out HS.out HD.out HO.out HZ.out HR.out ho hg
        have HP : Hid (SetPost pm (some b) dn c s false w w1) := hp
        clear hp ho hg
        go_wp2
        go_ret
        exact ⟨rfl, HP.out⟩

set_option maxHeartbeats 400000 in
theorem set17 (pm : Nat) (mb : Option Nat) (dn : ByteArray → Bool) (c : Nat) (s : ByteArray) (d : Bool) (w : World) (h : MarksAt w pm mb dn c) (hs : s.size ≤ maxLen) (hc : c ≤ 1000000) :
    Calls Try.prog 17 #[.pointer (some ⟨pm, 0, none⟩), .string s, .bool d] w fun e w' => e = .returned (.bool (dn s != d)) ∧ SetPost pm mb dn c s d w w' := by
  go_enter Try.func17, Try.ntmps17
  go_wp2_with fail
  refine (set30 pm mb dn c s d _ h hs hc).mono ?_
  rintro e w1 ⟨rfl, hp⟩
  have HP : Hid (SetPost pm mb dn c s d w w1) := hp
  clear hp h
  go_wp2
  go_ret
  exact ⟨rfl, HP.out⟩

end Go.Proofs.Qxb6600241a.Dm
