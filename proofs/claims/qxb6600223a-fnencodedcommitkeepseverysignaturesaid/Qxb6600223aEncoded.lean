/-
  THE WALK OF (*Commit).encoded (22) AND ZZEncoded (19).
-/
import Derived.Test.Qxb6600223aAddrs
import Derived.RegionTactic
import Derived.ChangeAlike
import Derived.Deep.RegionHeld3
namespace Go.Proofs.Qxb6600223a.TxW
open Go.RowKit

/-- the 21 cells of one signature: twenty bytes of its address, and the slice. -/
def sigC (z : Nat → Int) (A : Nat → Option Addr) (L C : Nat → Nat) (i : Nat) : List Value := bytes20 z (i * 20) ++ [.slice (A i) (L i) (C i)]

theorem sigC_len (z : Nat → Int) (A : Nat → Option Addr) (L C : Nat → Nat) (i : Nat) : (sigC z A L C i).length = 21 := by simp [sigC, bytes20_len]

theorem sigC_one (z : Nat → Int) (A : Nat → Option Addr) (L C : Nat → Nat) (i : Nat) : ∀ v ∈ sigC z A L C i, v.oneCell' = true := by
  intro v hv
  simp only [sigC, List.mem_append, List.mem_singleton] at hv
  rcases hv with hv | rfl
  · exact bytes20_one _ _ v hv
  · rfl

theorem sigC_20 (z : Nat → Int) (A : Nat → Option Addr) (L C : Nat → Nat) (i : Nat) : (sigC z A L C i).getD 20 undef = .slice (A i) (L i) (C i) := by
  have h : (bytes20 z (i * 20)).length = 20 := bytes20_len _ _
  simp [sigC, h]

theorem size49 : (Try.prog.info? 49).map (·.size) = some 21 := by kernel_rfl
theorem info57 : (Try.prog.info? 57).map (fun i => (i.zero, i.size, i.bytes)) = some (some (.agg #[.slice none 0 0, .slice none 0 0]), 2, 48) := by kernel_rfl

theorem make57 (m : Nat) (hm : m ≤ 1048576) : ∃ cs : Array Value, ∀ w : World, (Instr.makeSlice 52 (.int .i64 (m : Int)) (.int .i64 (m : Int))).run Try.prog w = .ok (.slice (some ⟨w.heap.size, 0, none⟩) m m) (w.alloc (.cells (madeCells cs (m * 2)) 57)) :=
  ⟨_, fun w => run_make_wide (P := Try.prog) 52 57 _ 2 48 Try.underlying52 info57 m (by omega) (by omega) w⟩

set_option maxHeartbeats 1000000 in
theorem encoded22_nil (w : World) : Calls Try.prog 22 #[.pointer none] w fun e w' => e = .returned (.pointer none) ∧ w' = w := by
  go_enter Try.func22, Try.ntmps22
  go_wp2
  go_ret
  exact ⟨rfl, rfl⟩

/-- what stands after k rounds: G the row of entries (block N), E the box (block N + 1), one copied signature a round (blocks N + 2 + i). -/
structure EncRel (w wr : World) (m k : Nat) (ht rd : Int) (z : Nat → Int) (A : Nat → Option Addr) (L C : Nat → Nat) : Prop where
  size : wr.heap.size = w.heap.size + 2 + k
  box : wr.rowIs (w.heap.size + 1) 55 3 (fun q => if q = 0 then .int .u64 ht else if q = 1 then .int .i32 rd else .slice (some ⟨w.heap.size, 0, none⟩) m m)
  row : ∃ f, wr.rowIs w.heap.size 57 (m * 2) f ∧ ∀ i, i < k → f (i * 2) = .slice (some ⟨w.heap.size + 2 + i, 0, none⟩) 20 20 ∧ f (i * 2 + 1) = .slice (A i) (L i) (C i)
  own : ∀ i, i < k → wr.rowIs (w.heap.size + 2 + i) 49 21 (fun q => (sigC z A L C i).getD q undef)
  bel : Below w.heap.size w wr

theorem EncRel.drew {w wr : World} {m k : Nat} {ht rd : Int} {z : Nat → Int} {A : Nat → Option Addr} {L C : Nat → Nat} (h : EncRel w wr m k ht rd z A L C) : EncRel w wr.drew m k ht rd z A L C :=
  ⟨h.size, h.box, h.row, h.own, h.bel.drew⟩

theorem EncRel.start (w : World) (cs : Array Value) (m : Nat) (ht rd : Int) (z : Nat → Int) (A : Nat → Option Addr) (L C : Nat → Nat) :
    EncRel w (((w.alloc (.cells (madeCells cs (m * 2)) 57)).alloc (.cells #[.int .u64 ht, .int .i32 rd, .slice (some ⟨w.heap.size, 0, none⟩) m m] 55))) m 0 ht rd z A L C := by
  refine ⟨by simp, ?_, ?_, fun i hi => by omega, ((Below.refl _ _).alloc (Nat.le_refl _) _).alloc (by simp) _⟩
  · have h := World.rowIs_alloc (w.alloc (.cells (madeCells cs (m * 2)) 57)) #[.int .u64 ht, .int .i32 rd, .slice (some ⟨w.heap.size, 0, none⟩) m m] 55
      (fun q => if q = 0 then .int .u64 ht else if q = 1 then .int .i32 rd else .slice (some ⟨w.heap.size, 0, none⟩) m m) (fun i hi => by
        have : i = 0 ∨ i = 1 ∨ i = 2 := by simp at hi; omega
        rcases this with rfl | rfl | rfl <;> rfl)
    simpa using h
  · obtain ⟨f, hf⟩ := made_row w cs (m * 2) 57
    exact ⟨f, hf.alloc _, fun i hi => by omega⟩

theorem EncRel.step {w wr W0 : World} {m k : Nat} {ht rd : Int} {z : Nat → Int} {A : Nat → Option Addr} {L C : Nat → Nat} (h : EncRel w wr m k ht rd z A L C) (hk : k < m)
    (hs : W0.heap.size = w.heap.size + 2 + k + 1) (hb : Below wr.heap.size wr W0) (hv : W0.rowIs (w.heap.size + 2 + k) 49 21 (fun q => (sigC z A L C k).getD q undef)) :
    EncRel w ((W0.setCell ⟨w.heap.size, k * 2, none⟩ (.slice (some ⟨w.heap.size + 2 + k, 0, none⟩) 20 20)).setCell ⟨w.heap.size, k * 2 + 1, none⟩ (.slice (A k) (L k) (C k))) m (k + 1) ht rd z A L C := by
  have hsz := h.size
  refine ⟨by simp [World.setCell, hs]; omega, ?_, ?_, fun i hi => ?_, ?_⟩
  · exact ((h.box.of_block (hb.block _ (by omega))).setOther (by simp) _).setOther (by simp) _
  · obtain ⟨f, hf, hfs⟩ := h.row
    refine ⟨_, ((hf.of_block (hb.block _ (by omega))).set _ _).set _ _, fun i hi => ?_⟩
    by_cases e : i = k
    · subst e
      simp
    · have h1 := hfs i (by omega)
      have e1 : ¬ i * 2 = k * 2 + 1 := by omega
      have e2 : ¬ i * 2 = k * 2 := by omega
      have e3 : ¬ i * 2 + 1 = k * 2 + 1 := by omega
      have e4 : ¬ i * 2 + 1 = k * 2 := by omega
      simp only [e1, e2, e3, e4, if_false]
      exact h1
  · by_cases e : i = k
    · subst e
      exact (hv.setOther (by simp; omega) _).setOther (by simp; omega) _
    · exact (((h.own i (by omega)).of_block (hb.block _ (by omega))).setOther (by simp; omega) _).setOther (by simp; omega) _
  · exact ((h.bel.trans (hb.mono (by omega))).setCell (Nat.le_refl _) _).setCell (Nat.le_refl _) _

set_option maxHeartbeats 1000000 in
theorem encoded22 (b0 : Nat) (ht rd : Int) (g m sc : Nat) (sa : Option Addr) (z : Nat → Int) (A : Nat → Option Addr) (L C : Nat → Nat) (w : World)
    (c0 : w.cell? ⟨b0, 0, none⟩ = some (.int .u64 ht)) (c1 : w.cell? ⟨b0, 1, none⟩ = some (.int .i32 rd)) (c2 : w.cell? ⟨b0, 2, none⟩ = some (.slice sa m sc))
    (hsa : 0 < m → sa = some ⟨g, 0, none⟩) (hm : m ≤ 1048576) (hsig : ∀ i, i < m → w.rangeAt g (i * 21) (sigC z A L C i)) :
    Calls Try.prog 22 #[.pointer (some ⟨b0, 0, none⟩)] w fun e w' => e = .returned (.pointer (some ⟨w.heap.size + 1, 0, none⟩)) ∧ EncRel w w' m m ht rd z A L C := by
  obtain ⟨cs, hmk⟩ := make57 m hm
  go_enter Try.func22, Try.ntmps22
  have n0 := World.new_ne w _ c0
  have n1 := World.new_ne w _ c1
  have n2 := World.new_ne w _ c2
  go_wp2
  go_region_held3 (fun w' => w'.cell? ⟨b0, 0, none⟩ = some (.int .u64 ht) ∧ w'.cell? ⟨b0, 1, none⟩ = some (.int .i32 rd) ∧ w'.cell? ⟨b0, 2, none⟩ = some (.slice sa m sc)) (go_keep) (fail)
  go_wp2
  clear hmk n0 n1 n2 c0 c1 c2
  go_loopw [29] (fun i wr => ∃ k : Nat, k ≤ m ∧ i = .int .i64 k ∧ EncRel w wr m k ht rd z A L C) (fun i _ => m - (intOf i).toNat)
  case atStart => exact ⟨0, Nat.zero_le _, rfl, (EncRel.start w cs m ht rd z A L C).drew⟩
  case round =>
    obtain ⟨k, hk, rfl, hrelk⟩ := hrel
    by_cases hlt : k < m
    · obtain rfl := hsa (by omega)
      obtain ⟨xs, hxs⟩ : ∃ xs, xs = sigC z A L C k := ⟨_, rfl⟩
      have HR : Hid (wr.rangeAt g (k * 21) xs) := by
        rw [hxs]
        intro j v hj
        have hc := hsig k hlt j v hj
        rw [hrelk.bel.cell (lt_of_cell hc)]; exact hc
      have HX : Hid (xs = sigC z A L C k) := hxs
      have HI : Hid ((Try.prog.info? 49).map (·.size) = some xs.length) := by rw [hxs, sigC_len]; exact size49
      have HO : Hid (∀ v ∈ xs, v.oneCell' = true) := by rw [hxs]; exact sigC_one z A L C k
      clear hxs
      have HL : Hid (xs.length = 21) := (by rw [HX.out, sigC_len] : xs.length = 21)
      go_wp2_with (first | (refine ld_wide 49 32 g (k * 21) rfl xs _ HR.out Try.underlying49 rfl HI.out ?_) | (refine st_new 49 5 33 _ xs rfl rfl HI.out HL.out.symm HO.out ?_))
      have hb : Below wr.heap.size wr (wr.alloc (Obj.cells xs.toArray 49)) := (Below.refl _ _).alloc (Nat.le_refl _) _
      have hs : (wr.alloc (Obj.cells xs.toArray 49)).heap.size = w.heap.size + 2 + k + 1 := by have := hrelk.size; simp; omega
      have hv : (wr.alloc (Obj.cells xs.toArray 49)).rowIs (w.heap.size + 2 + k) 49 21 (fun q => xs.getD q undef) := by
        have := World.rowIs_alloc wr xs.toArray 49 (fun q => xs.getD q undef) (fun i hi => by simp at hi; simp [hi])
        rw [hrelk.size] at this
        simpa [HL.out] using this
      have hsz := hrelk.size
      generalize wr.alloc (Obj.cells xs.toArray 49) = W0 at hb hs hv ⊢
      rw [HX.out] at hv
      have v20 := hv.cell (i := 20) (by omega)
      rw [sigC_20] at v20
      have e2 := (hrelk.box.of_block (hb.block _ (by omega))).cell (i := 2) (by omega)
      obtain ⟨f, hf, _⟩ := hrelk.row
      have hf0 := hf.of_block (hb.block _ (by omega))
      have d0 := hf0.cell (i := k * 2) (by omega)
      have d1 := hf0.cell (i := k * 2 + 1) (by omega)
      have z0 := hf0.frozen (k * 2)
      have z1 := hf0.frozen (k * 2 + 1)
      simp only [show ¬ (2 = 0) by decide, show ¬ (2 = 1) by decide, if_false] at e2
      rw [hsz]
      have hik : (0 : Int) ≤ (k : Int) := by omega
      have hil : (k : Int) < (m : Int) := by omega
      have hne1 : ¬ w.heap.size = w.heap.size + 2 + k := by omega
      have hne2 : ¬ w.heap.size + 2 + k = w.heap.size := by omega
      have R := hrelk.step hlt hs hb hv
      have HR2 : Hid (EncRel w ((W0.setCell ⟨w.heap.size, k * 2, none⟩ (.slice (some ⟨w.heap.size + 2 + k, 0, none⟩) 20 20)).setCell ⟨w.heap.size, k * 2 + 1, none⟩ (.slice (A k) (L k) (C k))) m (k + 1) ht rd z A L C) := R
      clear R hb hs hv hf hf0 hrelk hsig HR HX HI HO HL hsz
      go_region_held3 (fun w' => w'.cell? ⟨w.heap.size + 1, 2, none⟩ = some (.slice (some ⟨w.heap.size, 0, none⟩) m m) ∧ w'.cell? ⟨w.heap.size + 2 + k, 20, none⟩ = some (.slice (A k) (L k) (C k))) (go_keep) (fail)
      go_wp2
      go_roundw
      case rel => exact ⟨k + 1, by omega, by go_num, HR2.out.drew⟩
      case measure => simp [intOf]; omega
    · have hkm : k = m := by omega
      subst hkm
      go_wp2
      go_ret
      exact ⟨rfl, hrelk⟩

set_option maxHeartbeats 400000 in
theorem ZZEncoded19_nil (w : World) : Calls Try.prog 19 #[.pointer none] w fun e w' => e = .returned (.pointer none) ∧ w' = w := by
  go_enter Try.func19, Try.ntmps19
  go_wp2_with fail
  refine (encoded22_nil _).mono ?_
  rintro e w' ⟨rfl, hw'⟩; obtain rfl := hw'.symm
  go_wp2
  go_ret
  exact ⟨rfl, rfl⟩

set_option maxHeartbeats 400000 in
theorem ZZEncoded19 (b0 : Nat) (ht rd : Int) (g m sc : Nat) (sa : Option Addr) (z : Nat → Int) (A : Nat → Option Addr) (L C : Nat → Nat) (w : World)
    (c0 : w.cell? ⟨b0, 0, none⟩ = some (.int .u64 ht)) (c1 : w.cell? ⟨b0, 1, none⟩ = some (.int .i32 rd)) (c2 : w.cell? ⟨b0, 2, none⟩ = some (.slice sa m sc))
    (hsa : 0 < m → sa = some ⟨g, 0, none⟩) (hm : m ≤ 1048576) (hsig : ∀ i, i < m → w.rangeAt g (i * 21) (sigC z A L C i)) :
    Calls Try.prog 19 #[.pointer (some ⟨b0, 0, none⟩)] w fun e w' => e = .returned (.pointer (some ⟨w.heap.size + 1, 0, none⟩)) ∧ EncRel w w' m m ht rd z A L C := by
  go_enter Try.func19, Try.ntmps19
  go_wp2_with fail
  refine (encoded22 b0 ht rd g m sc sa z A L C _ c0 c1 c2 hsa hm hsig).mono ?_
  rintro e w' ⟨rfl, hrel⟩
  clear hsig c0 c1 c2 hsa
  go_wp2
  go_ret
  exact ⟨rfl, hrel⟩

end Go.Proofs.Qxb6600223a.TxW
