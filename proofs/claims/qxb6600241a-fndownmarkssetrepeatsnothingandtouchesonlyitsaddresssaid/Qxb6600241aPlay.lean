/-
  THE WALKS OF zzB1Play (22) AND zzB1Marks (23).
-/
import Derived.Test.Qxb6600241aModel
import Derived.Deep.RegionHeld3
import Derived.WalkSmall
namespace Go.Proofs.Qxb6600241a.Dm
open Go.RowKit Go.Maps

theorem MarksAt.drawnN {w : World} {pm : Nat} {mb : Option Nat} {dn : ByteArray → Bool} {c : Nat} (h : MarksAt w pm mb dn c) (j : Nat) : MarksAt (w.drewN j) pm mb dn c :=
  ⟨h.row.of_block rfl, h.nil, fun b e => (h.map b e).of_block rfl⟩

theorem marks_fresh (w : World) : MarksAt (w.alloc (.cells #[.map none] 32)) w.heap.size none (fun _ => false) 0 := by
  refine ⟨World.rowIs_alloc w #[.map none] 32 (fun _ => .map none) (fun i hi => ?_), fun _ => ⟨rfl, rfl⟩, fun b e => by cases e⟩
  have : i = 0 := by simp at hi; omega
  subst this
  rfl

theorem own_below {w : World} {a : Option Addr} {t : TypeId} {n : Nat} {f : Nat → Value} {g : Nat} (h : Own w a t n f g) : ∀ p, a = some p → g < w.heap.size := fun p hp => (h.row p hp).2.lt

theorem Turn.drawn (pm : Nat) (mb : Option Nat) (w : World) (j : Nat) : Turn pm mb mb w (w.drewN j) := ⟨rfl, rfl, rfl, Nat.le_refl _, fun _ _ _ _ => rfl, Or.inl rfl⟩

theorem cnt_le (dn : ByteArray → Bool) (s : ByteArray) (d : Bool) (c : Nat) : cnt dn s d c ≤ c + 1 := by
  unfold cnt
  split
  · omega
  · split <;> omega

theorem cell_of_block {w w' : World} {b off : Nat} (e : w'.heap[b]? = w.heap[b]?) : w'.cell? ⟨b, off, none⟩ = w.cell? ⟨b, off, none⟩ := by
  simp [World.cell?, e]

theorem SetPost.cell {pm : Nat} {mb : Option Nat} {dn : ByteArray → Bool} {c : Nat} {s : ByteArray} {d : Bool} {w w' : World} (hp : SetPost pm mb dn c s d w w') {b off : Nat} {v : Value} (sf : Safe w pm mb b) (h : w.cell? ⟨b, off, none⟩ = some v) : w'.cell? ⟨b, off, none⟩ = some v := by
  obtain ⟨mb', _, t⟩ := hp
  rw [cell_of_block (t.keeps sf).1, h]

set_option maxHeartbeats 1000000 in
theorem play22 (pm : Nat) (mb : Option Nat) (dn : ByteArray → Bool) (a d : Option Addr) (n ca m cd : Nat) (S : Nat → ByteArray) (T : Nat → Bool) (gA gD : Nat) (w : World) (h : MarksAt w pm mb dn 0)
    (own1 : Own w a 9 n (fun i => .string (S i)) gA) (own2 : Own w d 4 m (fun i => .bool (T i)) gD) (s1 : SafeOwn w pm mb a gA) (s2 : SafeOwn w pm mb d gD) (hn : n ≤ 4096) (hS : ∀ i, i < n → (S i).size ≤ maxLen) :
    Calls Try.prog 22 #[.pointer (some ⟨pm, 0, none⟩), .slice a n ca, .slice d m cd] w fun e w' => e = .returned (.tuple #[]) ∧ ∃ mb' dn' c', c' ≤ 4096 ∧ MarksAt w' pm mb' dn' c' ∧ Turn pm mb mb' w w' := by
  have HS : Hid (∀ i, i < n → (S i).size ≤ maxLen) := hS
  have HO : Hid (Own w a 9 n (fun i => .string (S i)) gA ∧ Own w d 4 m (fun i => .bool (T i)) gD ∧ SafeOwn w pm mb a gA ∧ SafeOwn w pm mb d gD ∧ MarksAt w pm mb dn 0) := ⟨own1, own2, s1, s2, h⟩
  clear hS own1 own2 s1 s2 h
  go_enter Try.func22, Try.ntmps22
  go_wp2_with fail
  refine (min15 n m _).mono ?_
  rintro e w' ⟨rfl, hw'⟩; obtain rfl := hw'.symm; clear hw'
  have ht1 : min n m ≤ n := Nat.min_le_left _ _
  have ht2 : min n m ≤ m := Nat.min_le_right _ _
  generalize min n m = t at ht1 ht2 ⊢
  go_wp2
  go_loopw [7] (fun v7 wr => ∃ (i : Nat) (mb' : Option Nat) (dn' : ByteArray → Bool) (c' : Nat), i ≤ t ∧ v7 = .int .i64 i ∧ c' ≤ i ∧ MarksAt wr pm mb' dn' c' ∧ Turn pm mb mb' w wr) (fun v7 _ => t - (intOf v7).toNat)
  case atStart => exact ⟨0, mb, dn, 0, Nat.zero_le _, rfl, Nat.le_refl _, HO.out.2.2.2.2, Turn.refl _ _ _⟩
  case round =>
    obtain ⟨i, mb', dn', c', hi, rfl, hc', hma, htu⟩ := hrel
    by_cases hlt : i < t
    · obtain ⟨own1, own2, s1, s2, _⟩ := HO.out
      obtain ⟨o1, f1⟩ := htu.own own1 s1
      obtain ⟨o2, f2⟩ := htu.own own2 s2
      cases a with
      | none => have := own1.nil rfl; omega
      | some p =>
      cases d with
      | none => have := own2.nil rfl; omega
      | some p2 =>
      obtain ⟨rfl, hr1⟩ := o1.row p rfl
      obtain ⟨rfl, hr2⟩ := o2.row p2 rfl
      have g1 := f1 _ rfl
      have g2 := f2 _ rfl
      have hc1 : wr.cell? ⟨gA, i, none⟩ = some (.string (S i)) := hr1.cell (by omega)
      have hc2 : wr.cell? ⟨gD, i, none⟩ = some (.bool (T i)) := hr2.cell (by omega)
      have hsz := HS.out i (by omega)
      have hit : (i : Int) < (t : Int) := by omega
      have hin : (i : Int) < (n : Int) := by omega
      have him : (i : Int) < (m : Int) := by omega
      have HMA : Hid (MarksAt wr.drew pm mb' dn' c') := hma.drawnN 1
      have HTU : Hid (Turn pm mb mb' w wr) := htu
      have HG1 : Hid (Safe wr.drew pm mb' gA) := ⟨g1.lt, g1.pm, g1.mb⟩
      have HG2 : Hid (Safe wr.drew pm mb' gD) := ⟨g2.lt, g2.pm, g2.mb⟩
      clear own1 own2 s1 s2 o1 o2 f1 f2 hr1 hr2 g1 g2 hma htu
      generalize S i = s at hc1 hsz
      generalize T i = x at hc2
      go_wp2
      go_region_held3 (fun w' => w'.cell? ⟨gA, i, none⟩ = some (.string s) ∧ w'.cell? ⟨gD, i, none⟩ = some (.bool x))
        (first | exact ⟨hp.cell HG1.out hc1, hp.cell HG2.out hc2⟩ | go_keep)
        (first | (go_at_call 17; refine (set17 pm mb' dn' c' s x _ HMA.out hsz (by omega)).mono ?_; rintro e w3 ⟨rfl, hp⟩))
      obtain ⟨mb2, hm2, ht2'⟩ := hp
      have HM2 : Hid (MarksAt w3 pm mb2 (upd dn' s x) (cnt dn' s x c')) := hm2
      have HT2 : Hid (Turn pm mb mb2 w w3) := (HTU.out.trans (Turn.drawn pm mb' wr 1)).trans ht2'
      clear hm2 ht2'
      go_wp2
      go_roundw
      case rel => exact ⟨i + 1, mb2, _, _, by omega, by go_num, by have := cnt_le dn' s x c'; omega, HM2.out, HT2.out⟩
      case measure => simp [intOf]; omega
    · go_wp2
      go_end0
      exact ⟨rfl, mb', dn', c', by omega, hma, htu⟩

set_option maxHeartbeats 400000 in
theorem marks23 (pm : Nat) (mb : Option Nat) (dn : ByteArray → Bool) (c : Nat) (a : Option Addr) (n ca : Nat) (S : Nat → ByteArray) (w : World) (h : MarksAt w pm mb dn c)
    (ha : Cells w a n (fun i => .string (S i))) (hn : n ≤ 4096) (hS : ∀ i, i < n → (S i).size ≤ maxLen) :
    Calls Try.prog 23 #[.pointer (some ⟨pm, 0, none⟩), .slice a n ca] w fun e w' => e = .returned (.slice (some ⟨w.heap.size, 0, none⟩) n n) ∧ w'.rowIs w.heap.size 4 n (fun i => .bool (dn (S i))) ∧ Below w.heap.size w w' := by
  have HS : Hid (∀ i, i < n → (S i).size ≤ maxLen) := hS
  have HMA : Hid (MarksAt w pm mb dn c) := h
  clear hS h
  have hmk := run_make_row' (P := Try.prog) 23 4 (.bool false) 1 Try.underlying23 info4 rfl .i64 .i64 n (by omega) (by omega)
  go_enter Try.func23, Try.ntmps23
  go_wp2
  go_loopw [6] (fun i wr => ∃ k : Nat, k ≤ n ∧ i = .int .i64 k ∧ wr.rowIs w.heap.size 4 n (upTo k (fun j => .bool (dn (S j))) (.bool false)) ∧ Below w.heap.size w wr) (fun i _ => n - (intOf i).toNat)
  case atStart => exact ⟨0, Nat.zero_le _, rfl, (World.rowIs_made _ _ _ _).congr (fun j _ => by simp [upTo]), (Below.refl _ _).alloc (Nat.le_refl _) _⟩
  case round =>
    obtain ⟨k, hk, rfl, hrow, hbel⟩ := hrel
    by_cases hlt : k < n
    · obtain ⟨b, off, rfl, hcell⟩ := ha.at hlt
      have hc : wr.cell? ⟨b, off + k, none⟩ = some (.string (S k)) := cell_keep' hbel (hcell k hlt)
      obtain ⟨u, hd⟩ : ∃ u, wr.cell? ⟨w.heap.size, k, none⟩ = some u := ⟨_, hrow.cell hlt⟩
      have hfz := hrow.frozen k
      have hsz := HS.out k hlt
      have HM' : Hid (MarksAt wr pm mb dn c) := HMA.out.later hbel
      clear hcell hmk ha
      go_wp2_with fail
      refine (isDown19 pm mb dn c (S k) _ HM'.out hsz).mono ?_
      rintro e w' ⟨rfl, hw'⟩; obtain rfl := hw'.symm; clear hw'
      go_wp2
      go_roundw
      case rel => exact ⟨k + 1, by omega, by go_num, (hrow.set k (.bool (dn (S k)))).congr (fun j _ => upTo_step k (fun j => .bool (dn (S j))) _ j), hbel.setCell (Nat.le_refl _) _⟩
      case measure => simp [intOf]; omega
    · have hkl : k = n := by omega
      subst hkl
      clear hmk
      go_wp2
      go_ret
      exact ⟨rfl, hrow.congr fun j hj => by simp [upTo, hj], hbel⟩

end Go.Proofs.Qxb6600241a.Dm
