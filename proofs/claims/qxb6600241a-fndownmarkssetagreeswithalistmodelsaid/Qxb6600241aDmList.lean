/-
  THE WALK OF FnDownMarksSetAgreesWithAListModel (3).
-/
import Derived.Test.Qxb6600241aModel
import Derived.Deep.DeepCutAuto
import Derived.Deep.RegionHeld3
import Derived.WalkSmall
namespace Go.Proofs.Qxb6600241a.Dm
open Go.RowKit Go.Maps

theorem marks_new (w : World) : MarksAt (w.alloc (.cells #[.map none] 32)) w.heap.size none (fun _ => false) 0 := by
  refine ⟨World.rowIs_alloc w #[.map none] 32 (fun _ => .map none) (fun i hi => ?_), fun _ => ⟨rfl, rfl⟩, fun b e => by cases e⟩
  have : i = 0 := by simp at hi; omega
  subst this
  rfl

theorem own_lt {w : World} {a : Option Addr} {t : TypeId} {n : Nat} {f : Nat → Value} {g : Nat} (h : Own w a t n f g) : ∀ p, a = some p → g < w.heap.size := fun p hp => (h.row p hp).2.lt

theorem MarksAt.drawn {w : World} {pm : Nat} {mb : Option Nat} {dn : ByteArray → Bool} {c : Nat} (h : MarksAt w pm mb dn c) (j : Nat) : MarksAt (w.drewN j) pm mb dn c :=
  ⟨h.row.of_block rfl, h.nil, fun b e => (h.map b e).of_block rfl⟩

/-- what the loops carry. -/
structure St (w wr : World) (pm R t l : Nat) (mb : Option Nat) (dn : ByteArray → Bool) (M : Nat → ByteArray) (a d : Option Addr) (n m : Nat) (S : Nat → ByteArray) (T : Nat → Bool) (gA gD : Nat) : Prop where
  ma : MarksAt wr pm mb dn l
  li : ListAt wr R t l M
  mo : Model dn l M
  ba : Base w wr pm R mb a d n m S T gA gD

theorem St.same {w wr w1 : World} {pm R t l : Nat} {mb : Option Nat} {dn : ByteArray → Bool} {M : Nat → ByteArray} {a d : Option Addr} {n m : Nat} {S : Nat → ByteArray} {T : Nat → Bool} {gA gD : Nat} (h : St w wr pm R t l mb dn M a d n m S T gA gD) {s : ByteArray} {x : Bool} (hx : dn s = x)
    (hp : SetPost pm mb dn l s x wr w1) : ∃ mb', St w w1 pm R t l mb' dn M a d n m S T gA gD := by
  obtain ⟨mb', hm, ht⟩ := hp
  rw [upd_same hx] at hm
  have hc : cnt dn s x l = l := by simp [cnt, hx]
  rw [hc] at hm
  exact ⟨mb', hm, h.li.of_block (ht.keeps h.ba.sR).1, h.mo, h.ba.turn ht⟩

theorem St.pulled {w wr w1 : World} {pm R t l : Nat} {mb : Option Nat} {dn : ByteArray → Bool} {M : Nat → ByteArray} {a d : Option Addr} {n m : Nat} {S : Nat → ByteArray} {T : Nat → Bool} {gA gD : Nat} (h : St w wr pm R t l mb dn M a d n m S T gA gD) {s : ByteArray} {j : Nat} (hj : j < l) (hs : M j = s) (hx : dn s = true)
    (hp : SetPost pm mb dn l s false wr w1) : ListAt w1 R t l M ∧ ∃ mb', St w (w1.setCell ⟨R, j, none⟩ (.string (M (l - 1)))) pm R t (l - 1) mb' (upd dn s false) (pull l j M) a d n m S T gA gD := by
  obtain ⟨mb', hm, ht⟩ := hp
  have hc : cnt dn s false l = l - 1 := by simp [cnt, hx]
  rw [hc] at hm
  have hli := h.li.of_block (ht.keeps h.ba.sR).1
  have hba := h.ba.turn ht
  have hg := grown_setCell w1 ⟨R, j, none⟩ (.string (M (l - 1)))
  exact ⟨hli, mb', hm.grown hg hba.sR.pm hba.sR.mb, hli.pulled hj, h.mo.pull hj s hs, hba.grown hg⟩

theorem St.pushed {w wr w1 : World} {pm R t l : Nat} {mb : Option Nat} {dn : ByteArray → Bool} {M : Nat → ByteArray} {a d : Option Addr} {n m : Nat} {S : Nat → ByteArray} {T : Nat → Bool} {gA gD : Nat} (h : St w wr pm R t l mb dn M a d n m S T gA gD) {s : ByteArray} (hx : dn s = false)
    (hp : SetPost pm mb dn l s true wr w1) : ListAt w1 R t l M ∧ ∀ w2, w1.grownBy w2 (some R) → w2.ownsRow 0 9 1 (.slice (some ⟨R, 0, none⟩) (l + 1) t) (l + 1) (((List.range l).map fun j => Value.string (M j)) ++ [Value.string s]) →
      ∃ mb', St w w2 pm R t (l + 1) mb' (upd dn s true) (push l M s) a d n m S T gA gD := by
  obtain ⟨mb', hm, ht⟩ := hp
  have hc : cnt dn s true l = l + 1 := by simp [cnt, hx]
  rw [hc] at hm
  have hli := h.li.of_block (ht.keeps h.ba.sR).1
  have hba := h.ba.turn ht
  refine ⟨hli, fun w2 hg ho => ?_⟩
  rw [push_list] at ho
  exact ⟨mb', hm.grown hg hba.sR.pm hba.sR.mb, listAt_of_owns ho, h.mo.push s hx, hba.grown hg⟩

theorem St.first {w w2 : World} {t n m : Nat} {cs : Array Value} {a d : Option Addr} {S : Nat → ByteArray} {T : Nat → Bool} {gA gD : Nat} (own1 : Own w2 a 9 n (fun i => .string (S i)) gA) (own2 : Own w2 d 4 m (fun i => .bool (T i)) gD) (bel : Below w.heap.size w w2) :
    St w ((w2.alloc (.cells #[.map none] 32)).alloc (.cells (madeCells cs t) 9)) w2.heap.size (w2.heap.size + 1) t 0 none (fun _ => false) (fun _ => ByteArray.empty) a d n m S T gA gD := by
  have b1 : Below w2.heap.size w2 (w2.alloc (.cells #[.map none] 32)) := (Below.refl _ _).alloc (Nat.le_refl _) _
  have sz1 : (w2.alloc (.cells #[.map none] 32)).heap.size = w2.heap.size + 1 := by simp
  have b2 : Below (w2.alloc (.cells #[.map none] 32)).heap.size (w2.alloc (.cells #[.map none] 32)) ((w2.alloc (.cells #[.map none] 32)).alloc (.cells (madeCells cs t) 9)) := (Below.refl _ _).alloc (Nat.le_refl _) _
  have b12 : Below w2.heap.size w2 ((w2.alloc (.cells #[.map none] 32)).alloc (.cells (madeCells cs t) 9)) := b1.trans (b2.mono b1.size)
  have sz2 : ((w2.alloc (.cells #[.map none] 32)).alloc (.cells (madeCells cs t) 9)).heap.size = w2.heap.size + 2 := by simp
  have hl := listAt_made (w2.alloc (.cells #[.map none] 32)) cs t (fun _ => ByteArray.empty)
  rw [sz1] at hl
  refine ⟨(marks_new w2).later b2, hl, model_empty _, own1.later b12, own2.later b12, fun p hp => ?_, fun p hp => ?_, ?_, fun p hp => ?_, fun p hp => ?_, bel.trans (b12.mono bel.size), bel.size, by have := bel.size; omega, fun k e => by cases e⟩
  · have := own_lt own1 p hp; exact ⟨by omega, by omega, by simp⟩
  · have := own_lt own2 p hp; exact ⟨by omega, by omega, by simp⟩
  · exact ⟨by omega, by omega, by simp⟩
  · have := own_lt own1 p hp; omega
  · have := own_lt own2 p hp; omega

set_option maxRecDepth 100000 in
set_option maxHeartbeats 4000000 in
theorem law3 (a b : Option Addr) (n c m d : Nat) (S : Nat → ByteArray) (T : Nat → Bool) (w : World) (ha : Cells w a n (fun i => .string (S i))) (hb : Cells w b m (fun i => .bool (T i)))
    (hn : n ≤ maxLen) (hm : m ≤ maxLen) (hS : ∀ i, i < n → (S i).size ≤ maxLen) :
    Calls Try.prog 3 #[.slice a n c, .slice b m d] w fun e w' => e = .returned (.bool true) ∧ Below w.heap.size w w' := by
  go_enter Try.func3, Try.ntmps3
  go_wp2_with fail
  refine (guard11 a b n c m d S _ ha hn hm hS).mono ?_
  rintro e w' ⟨⟨x, rfl⟩, hw'⟩; obtain rfl := hw'.symm; clear hw'
  cases x with
  | false =>
    unfold maxLen at hn hm
    go_wp2
    go_ret
    exact ⟨rfl, Below.refl _ _⟩
  | true =>
  have HS : Hid (∀ i, i < n → (S i).size ≤ maxLen) := hS
  clear hS
  unfold maxLen at hn hm
  by_cases hn4 : 4096 < n
  · go_wp2
    go_ret
    exact ⟨rfl, Below.refl _ _⟩
  by_cases hm4 : 4096 < m
  · go_wp2
    go_ret
    exact ⟨rfl, Below.refl _ _⟩
  clear hn hm
  go_wp2_with fail
  refine (bytes12 a n c S _ ha (by omega) HS.out).mono ?_
  rintro e w' ⟨⟨r, rfl, hr0, hr1⟩, hw'⟩; obtain rfl := hw'.symm; clear hw'
  by_cases hr : 1048576 < r + m
  · go_wp2
    go_ret
    exact ⟨rfl, Below.refl _ _⟩
  go_wp2_with fail
  refine (copyStrings13 a n c S _ ha (by omega)).mono ?_
  rintro e w1 ⟨a', c', rfl, own1, bel1⟩
  have hb1 := hb.later bel1
  clear ha hb
  go_wp2_with fail
  refine (copyBools14 b m d T _ hb1 (by omega)).mono ?_
  rintro e w2 ⟨b', d', rfl, own2, bel2⟩
  have own1' := own1.later bel2
  have bel : Below w.heap.size w w2 := bel1.trans (bel2.mono bel1.size)
  have hg12 := own_lt own1
  clear hb1 own1
  go_wp2_with fail
  refine (min15 n m _).mono ?_
  rintro e w' ⟨rfl, hw'⟩; obtain rfl := hw'.symm; clear hw'
  have ht1 : min n m ≤ n := Nat.min_le_left _ _
  have ht2 : min n m ≤ m := Nat.min_le_right _ _
  generalize min n m = t at ht1 ht2 ⊢
  obtain ⟨cs, hmk⟩ := make0 t (by omega)
  go_wp2
  have st0 := St.first (cs := cs) (t := t) own1' own2 bel
  have HST : Hid (St w ((w2.alloc (.cells #[.map none] 32)).alloc (.cells (madeCells cs t) 9)) w2.heap.size (w2.heap.size + 1) t 0 none (fun _ => false) (fun _ => ByteArray.empty) a' b' n m S T w.heap.size w1.heap.size) := st0
  clear st0 own1' own2 bel hmk bel1 bel2
  generalize w2.heap.size = pm at HST ⊢
  generalize w.heap.size = B0 at HST ⊢
  go_loopw [7, 8] (fun v7 v8 wr => ∃ (i l : Nat) (mb : Option Nat) (dn : ByteArray → Bool) (M : Nat → ByteArray), i ≤ t ∧ l ≤ i ∧ v7 = .slice (some ⟨pm + 1, 0, none⟩) l t ∧ v8 = .int .i64 i ∧ St w wr pm (pm + 1) t l mb dn M a' b' n m S T B0 w1.heap.size) (fun _ v8 _ => t - (intOf v8).toNat)
  case atStart => exact ⟨0, 0, none, _, _, Nat.zero_le _, Nat.le_refl _, rfl, rfl, HST.out⟩
  case round =>
    obtain ⟨i, l, mb, dn, M, hi, hl, rfl, rfl, st⟩ := hrel
    clear HST
    by_cases hlt : i < t
    · obtain ⟨b1, off1, rfl, hcell1⟩ := st.ba.own1.cells.at (show i < n by omega)
      obtain ⟨b2, off2, rfl, hcell2⟩ := st.ba.own2.cells.at (show i < m by omega)
      have hc1 := hcell1 i (by omega)
      have hc2 := hcell2 i (by omega)
      have hsz := HS.out i (by omega)
      have hit : (i : Int) < (t : Int) := by omega
      have hin : (i : Int) < (n : Int) := by omega
      have him : (i : Int) < (m : Int) := by omega
      have HST : Hid (St w wr pm (pm + 1) t l mb dn M (some ⟨b1, off1, none⟩) (some ⟨b2, off2, none⟩) n m S T B0 w1.heap.size) := st
      clear hcell1 hcell2 st
      generalize S i = s at hc1 hsz
      generalize T i = x at hc2
      go_wp2_with fail
      refine (indexOf16 _ l t M s _ HST.out.li.cells (by omega)).mono ?_
      rintro e w' ⟨hf, hw'⟩; obtain rfl := hw'.symm; clear hw'
      rcases hf with ⟨j, hj, rfl, hm⟩ | ⟨rfl, hno⟩
      · have hdn : dn s = true := HST.out.mo.found hj hm
        have hj0 : (0 : Int) ≤ (j : Int) := by omega
        have hjl : (j : Int) < (l : Int) := by omega
        cases x with
        | true =>
          go_wp2_with fail
          refine (set17 pm mb dn l s true _ HST.out.ma hsz (by omega)).mono ?_
          rintro e w3 ⟨he, hp⟩
          have he' : e = .returned (.bool false) := by rw [he, hdn]; rfl
          subst he'
          obtain ⟨mb', st'⟩ := HST.out.same hdn hp
          have HST' : Hid (St w w3 pm (pm + 1) t l mb' dn M (some ⟨b1, off1, none⟩) (some ⟨b2, off2, none⟩) n m S T B0 w1.heap.size) := st'
          clear he hp st' HST hc1 hc2
          go_wp2_with fail
          refine (isDown19 pm mb' dn l s _ HST'.out.ma hsz).mono ?_
          rintro e w' ⟨he, hw'⟩; obtain rfl := hw'.symm; clear hw'
          rw [hdn] at he
          subst he
          go_wp2_with fail
          refine (count20 pm mb' dn l _ HST'.out.ma).mono ?_
          rintro e w' ⟨rfl, hw'⟩; obtain rfl := hw'.symm; clear hw'
          have hll : ((l : Int) != (l : Int)) = false := by simp
          go_wp2
          go_roundw
          case rel => exact ⟨i + 1, l, mb', dn, M, by omega, by omega, rfl, by go_num, HST'.out⟩
          case measure => simp [intOf]; omega
        | false =>
          go_wp2_with fail
          refine (set17 pm mb dn l s false _ HST.out.ma hsz (by omega)).mono ?_
          rintro e w3 ⟨he, hp⟩
          have he' : e = .returned (.bool true) := by rw [he, hdn]; rfl
          subst he'
          obtain ⟨hli, mb', st'⟩ := HST.out.pulled hj hm hdn hp
          have HST' : Hid (St w (w3.setCell ⟨pm + 1, j, none⟩ (.string (M (l - 1)))) pm (pm + 1) t (l - 1) mb' (upd dn s false) (pull l j M) (some ⟨b1, off1, none⟩) (some ⟨b2, off2, none⟩) n m S T B0 w1.heap.size) := st'
          clear he hp st' HST hc1 hc2
          have hdn' : upd dn s false s = false := by simp [upd]
          go_wp2_with fail
          refine (removeAt18 (pm + 1) t l j M _ hli hj (by omega)).mono ?_
          rintro e w' ⟨rfl, hw'⟩
          rw [← hw'] at HST'
          clear hw' hli
          go_wp2_with fail
          refine (isDown19 pm mb' _ (l - 1) s _ HST'.out.ma hsz).mono ?_
          rintro e w'' ⟨he, hw'⟩; obtain rfl := hw'.symm; clear hw'
          rw [hdn'] at he
          subst he
          go_wp2_with fail
          refine (count20 pm mb' _ (l - 1) _ HST'.out.ma).mono ?_
          rintro e w'' ⟨rfl, hw'⟩; obtain rfl := hw'.symm; clear hw'
          have hll : (((l - 1 : Nat) : Int) != ((l - 1 : Nat) : Int)) = false := by simp
          go_wp2
          go_roundw
          case rel => exact ⟨i + 1, l - 1, mb', _, _, by omega, by omega, rfl, by go_num, HST'.out⟩
          case measure => simp [intOf]; omega
      · have hdn : dn s = false := HST.out.mo.not_found hno
        clear hno
        cases x with
        | true => 
          go_wp2_with fail
          refine (set17 pm mb dn l s true _ HST.out.ma hsz (by omega)).mono ?_
          rintro e w3 ⟨he, hp⟩
          have he' : e = .returned (.bool true) := by rw [he, hdn]; rfl
          subst he'
          obtain ⟨hli, hst⟩ := HST.out.pushed hdn hp
          clear he hp HST hc1 hc2
          have HH : Hid (∀ w2, w3.grownBy w2 (some (pm + 1)) → w2.ownsRow 0 9 1 (.slice (some ⟨pm + 1, 0, none⟩) (l + 1) t) (l + 1) (((List.range l).map fun j => Value.string (M j)) ++ [Value.string s]) →
            ∃ mb', St w w2 pm (pm + 1) t (l + 1) mb' (upd dn s true) (push l M s) (some ⟨b1, off1, none⟩) (some ⟨b2, off2, none⟩) n m S T B0 w1.heap.size) := hst
          clear hst
          obtain ⟨i0, hi0, _, hs0, _⟩ := info_parts info9
          have hown := hli.owns (by unfold maxLen; omega)
          clear hli
          go_wp2_with first
            | (at_builtin; refine wpList_append_own_spare _ rfl (.tmp 78) (.tmp 80) 22 rfl 0 9 i0 1 Try.underlying22 hi0 hs0 (pm + 1) l t _ rfl (hown.alloc _) ⟨w3.heap.size, 0, none⟩ 1 1 [.string s] rfl rfl (cell_one_new _ _ _) (by intro u hu; simp at hu; subst hu; rfl) (by omega) ?_; intro w4 hown4 hgrow4)
          obtain ⟨mb', st'⟩ := HH.out w4 ((World.grownBy_alloc _ _ _).trans hgrow4) hown4
          have HST' : Hid (St w w4 pm (pm + 1) t (l + 1) mb' (upd dn s true) (push l M s) (some ⟨b1, off1, none⟩) (some ⟨b2, off2, none⟩) n m S T B0 w1.heap.size) := st'
          clear st' HH hown hown4 hgrow4
          have hdn' : upd dn s true s = true := by simp [upd]
          go_wp2_with fail
          refine (isDown19 pm mb' _ (l + 1) s _ HST'.out.ma hsz).mono ?_
          rintro e w' ⟨he, hw'⟩; obtain rfl := hw'.symm; clear hw'
          rw [hdn'] at he
          subst he
          go_wp2_with fail
          refine (count20 pm mb' _ (l + 1) _ HST'.out.ma).mono ?_
          rintro e w' ⟨rfl, hw'⟩; obtain rfl := hw'.symm; clear hw'
          have hll : (((l + 1 : Nat) : Int) != ((l + 1 : Nat) : Int)) = false := by simp
          go_wp2
          go_roundw
          case rel => exact ⟨i + 1, l + 1, mb', _, _, by omega, by omega, rfl, by go_num, HST'.out⟩
          case measure => simp [intOf]; omega
        | false =>
          go_wp2_with fail
          refine (set17 pm mb dn l s false _ HST.out.ma hsz (by omega)).mono ?_
          rintro e w3 ⟨he, hp⟩
          have he' : e = .returned (.bool false) := by rw [he, hdn]; rfl
          subst he'
          obtain ⟨mb', st'⟩ := HST.out.same hdn hp
          have HST' : Hid (St w w3 pm (pm + 1) t l mb' dn M (some ⟨b1, off1, none⟩) (some ⟨b2, off2, none⟩) n m S T B0 w1.heap.size) := st'
          clear he hp st' HST hc1 hc2
          go_wp2_with fail
          refine (isDown19 pm mb' dn l s _ HST'.out.ma hsz).mono ?_
          rintro e w' ⟨he, hw'⟩; obtain rfl := hw'.symm; clear hw'
          rw [hdn] at he
          subst he
          go_wp2_with fail
          refine (count20 pm mb' dn l _ HST'.out.ma).mono ?_
          rintro e w' ⟨rfl, hw'⟩; obtain rfl := hw'.symm; clear hw'
          have hll : ((l : Int) != (l : Int)) = false := by simp
          go_wp2
          go_roundw
          case rel => exact ⟨i + 1, l, mb', dn, M, by omega, by omega, rfl, by go_num, HST'.out⟩
          case measure => simp [intOf]; omega
    · have hit : i = t := by omega
      subst hit
      have HST : Hid (St w wr pm (pm + 1) i l mb dn M a' b' n m S T B0 w1.heap.size) := st
      clear st
      go_wp2
      go_loopw [14] (fun v14 wq => ∃ (k q : Nat), k ≤ n ∧ v14 = .int .i64 k ∧ wq = wr.drewN q) (fun v14 _ => n - (intOf v14).toNat)
      case atStart => exact ⟨0, 0, Nat.zero_le _, rfl, rfl⟩
      case round =>
        obtain ⟨k, q, hk, rfl, rfl⟩ := hrel
        by_cases hlt : k < n
        · obtain ⟨b1, off1, rfl, hcell1⟩ := HST.out.ba.own1.cells.at hlt
          have hc1 := hcell1 k hlt
          have hsz := HS.out k hlt
          have hkn : (k : Int) < (n : Int) := by omega
          have HM : Hid (∀ j, MarksAt (wr.drewN j) pm mb dn l) := fun j => HST.out.ma.drawn j
          have HL : Hid (∀ j, ListAt (wr.drewN j) (pm + 1) i l M) := fun j => HST.out.li.of_block rfl
          have HMo : Hid (Model dn l M) := HST.out.mo
          clear hcell1
          generalize S k = s at hc1 hsz
          cases hdn : dn s with
          | true =>
            have h19 : Hid (∀ j, Calls Try.prog 19 #[.pointer (some ⟨pm, 0, none⟩), .string s] (wr.drewN j) fun e w' => e = .returned (.bool true) ∧ w' = wr.drewN j) := fun j => by
              have := isDown19 pm mb dn l s _ (HM.out j) hsz
              rw [hdn] at this
              exact this
            have h16 : Hid (∀ j, Calls Try.prog 16 #[.slice (some ⟨pm + 1, 0, none⟩) l i, .string s] (wr.drewN j) fun e w' => (∃ x : Nat, e = .returned (.int .i64 x)) ∧ w' = wr.drewN j) := fun j => by
              refine (indexOf16 _ l i M s _ (HL.out j).cells (by omega)).mono ?_
              rintro e w' ⟨hf, rfl⟩
              rcases hf with ⟨x, _, rfl, _⟩ | ⟨_, hno⟩
              · exact ⟨⟨x, rfl⟩, rfl⟩
              · rw [HMo.out.not_found hno] at hdn; cases hdn
            clear HM HL HMo hsz hdn HST
            go_wp2
            go_region_held3 (fun w' => w'.cell? ⟨b1, off1 + k, none⟩ = some (.string s)) (go_keep)
              (first | (go_at_call 19; refine (h19.out (q + 1)).mono ?_; rintro e w8 ⟨rfl, rfl⟩) | (go_at_call 16; refine (h16.out (q + 1)).mono ?_; rintro e w8 ⟨⟨x, rfl⟩, rfl⟩))
            have hx0 : (0 : Int) ≤ (x : Int) := by omega
            go_wp2
            go_roundw
            case rel => exact ⟨k + 1, q + 1, by omega, by go_num, rfl⟩
            case measure => simp [intOf]; omega
          | false =>
            have h19 : Hid (∀ j, Calls Try.prog 19 #[.pointer (some ⟨pm, 0, none⟩), .string s] (wr.drewN j) fun e w' => e = .returned (.bool false) ∧ w' = wr.drewN j) := fun j => by
              have := isDown19 pm mb dn l s _ (HM.out j) hsz
              rw [hdn] at this
              exact this
            have h16 : Hid (∀ j, Calls Try.prog 16 #[.slice (some ⟨pm + 1, 0, none⟩) l i, .string s] (wr.drewN j) fun e w' => e = .returned (.int .i64 (-1)) ∧ w' = wr.drewN j) := fun j => by
              refine (indexOf16 _ l i M s _ (HL.out j).cells (by omega)).mono ?_
              rintro e w' ⟨hf, rfl⟩
              rcases hf with ⟨x, hx, _, hm⟩ | ⟨rfl, _⟩
              · rw [HMo.out.found hx hm] at hdn; cases hdn
              · exact ⟨rfl, rfl⟩
            clear HM HL HMo hsz hdn HST
            go_wp2
            go_region_held3 (fun w' => w'.cell? ⟨b1, off1 + k, none⟩ = some (.string s)) (go_keep)
              (first | (go_at_call 19; refine (h19.out (q + 1)).mono ?_; rintro e w8 ⟨rfl, rfl⟩) | (go_at_call 16; refine (h16.out (q + 1)).mono ?_; rintro e w8 ⟨rfl, rfl⟩))
            go_wp2
            go_roundw
            case rel => exact ⟨k + 1, q + 1, by omega, by go_num, rfl⟩
            case measure => simp [intOf]; omega
        · go_wp2
          go_ret
          exact ⟨rfl, below_drewN HST.out.ba.bel q⟩

end Go.Proofs.Qxb6600241a.Dm
