/-
  THE WALK OF FnEncodedCommitKeepsEverySignature (7).
-/
import Derived.Test.Qxb6600223aEncMem
import Derived.Deep.DeepCutAuto
import Derived.Deep.RegionHeld3
namespace Go.Proofs.Qxb6600223a.TxW
open Go.RowKit
attribute [local go_sem ↓] exec_build49 exec_store49
attribute [local go_sem] bld49_run sto49_run

set_option maxRecDepth 100000 in
set_option maxHeartbeats 4000000 in
theorem law7 (x y : Bool) (ht rd : Int) (a s : Option Addr) (n c m d : Nat) (z : Nat → Int) (A : Nat → Option Addr) (L C : Nat → Nat) (Z : Nat → Nat → Int) (w : World)
    (ha : Byt w 0 a (20 * n) z) (ho : Outer w s m A L C) (hB : ∀ i, i < m → Byt w 0 (A i) (L i) (Z i)) (hn : n ≤ maxLen) (hm : m ≤ maxLen) (hL : ∀ i, i < m → L i ≤ maxLen) :
    Calls Try.prog 7 #[.bool x, .bool y, .int .u64 ht, .int .i32 rd, .slice a n c, .slice s m d] w fun e w' => e = .returned (.bool true) ∧ Below w.heap.size w w' := by
  cases hok : okE n m L with
  | false =>
    have HO : Hid (okE n m L = false) := hok
    clear hok
    go_enter Try.func7, Try.ntmps7
    go_wp2_with fail
    refine (zzBytes16 _ _ _ _ _ _ _ _ _ _ _ _ _ _ ho hn hm hL).mono ?_
    rintro e w' ⟨rfl, hw'⟩; obtain rfl := hw'.symm; clear hw'
    rw [HO.out]
    go_wp2
    go_ret
    exact ⟨rfl, Below.refl _ _⟩
  | true =>
    have hs0 := okE_true hok
    have HO : Hid (okE n m L = true) := hok
    clear hok
    go_enter Try.func7, Try.ntmps7
    go_wp2_with fail
    refine (zzBytes16 _ _ _ _ _ _ _ _ _ _ _ _ _ _ ho hn hm hL).mono ?_
    rintro e w' ⟨rfl, hw'⟩; obtain rfl := hw'.symm; clear hw'
    rw [HO.out]
    clear hL hn hm
    by_cases hm : 65536 < m
    · go_wp2
      go_ret
      exact ⟨rfl, Below.refl _ _⟩
    by_cases hsz : 1048576 < 20 * n + 24 * m
    · go_wp2
      go_ret
      exact ⟨rfl, Below.refl _ _⟩
    go_wp2
    go_loop [13, 14] (fun t i => ∃ k : Nat, k ≤ m ∧ 20 * n + 24 * m + Tx.sumL L k ≤ 1048576 ∧ i = .int .i64 k ∧ t = .int .i64 (20 * n + 24 * m + Tx.sumL L k : Nat)) (fun _ i => m - (intOf i).toNat)
    case atStart => exact ⟨0, Nat.zero_le _, by simp [Tx.sumL]; omega, rfl, by simp [Tx.sumL]⟩
    case round =>
      obtain ⟨k, hk, hs, rfl, rfl⟩ := hrel
      by_cases hlt : k < m
      · obtain ⟨b, off, rfl, hcell⟩ := ho.at hlt
        have hc := hcell k hlt
        have hle := Tx.le_sumL L hlt
        have hsu := Tx.sumL_succ L k
        have hmo := Tx.sumL_mono L (k := k + 1) (n := m) hlt
        clear hcell ho hB ha
        by_cases h2 : 20 * n + 24 * m + Tx.sumL L k + L k ≤ 1048576
        · have H : Hid (Tx.sumL L (k + 1) = Tx.sumL L k + L k) := hsu
          clear hsu
          go_wp2
          go_round
          case rel => exact ⟨k + 1, by omega, by rw [H.out]; omega, by go_num, by rw [H.out]; go_num⟩
          case measure => simp [intOf]; omega
        · clear hsu
          go_wp2
          go_ret
          exact ⟨rfl, Below.refl _ _⟩
      · have hkm : k = m := by omega
        subst hkm
        clear hlt hk hs
        go_wp2_with fail
        refine (cloneAddrs17 _ _ _ z _ ha (by omega)).mono ?_
        rintro e w1 ⟨a', c', rfl, ha', hbel1⟩
        have ho1 := ho.later hbel1
        have hB1 : ∀ i, i < k → Byt w1 0 (A i) (L i) (Z i) := fun i hi => (hB i hi).later hbel1
        clear ha ho hB
        go_wp2_with fail
        refine (cloneList13 _ _ _ _ _ _ Z _ ho1 hB1 (by omega)).mono ?_
        rintro e w2 ⟨s', d', A', C', rfl, hnn, hrow, hfam, hbel2⟩
        have ho2 := outer_row (fun hh => ho1.nil (hnn.1 hh)) hrow
        have ha2 := ha'.later hbel2
        have hbel : Below w.heap.size w w2 := hbel1.trans (hbel2.mono hbel1.size)
        clear hrow ho1 hB1 ha' hnn hbel1
        go_upto_if 71 with fail
        go_cut [15] (fun s15 wc => s15 = .int .i64 (min n k : Nat) ∧ wc = w2)
        case first =>
          by_cases hmin : k < n
          · go_wp2
            go_meet
            case rel => exact ⟨by rw [Nat.min_eq_right (by omega)], rfl⟩
          · go_wp2
            go_meet
            case rel => exact ⟨by rw [Nat.min_eq_left (by omega)], rfl⟩
        case rest =>
          obtain ⟨rfl, hwc⟩ := hcut
          obtain rfl := hwc.symm
          clear hwc
          have hmn : min n k ≤ n := Nat.min_le_left _ _
          have hmk : min n k ≤ k := Nat.min_le_right _ _
          generalize min n k = t at hmn hmk ⊢
          cases x with
          | true =>
            go_wp2_with fail
            refine (ZZEncoded19_nil _).mono ?_
            rintro e w' ⟨rfl, hw'⟩; obtain rfl := hw'.symm; clear hw'
            go_wp2
            go_ret
            exact ⟨rfl, hbel⟩
          | false =>
            obtain ⟨cs, hmk⟩ := make49 t (by omega)
            go_upto_region 22 with fail
            go_cut [85] (fun s85 wc => s85 = .bool (decide (0 < t) || !y) ∧ wc = w2.alloc (Obj.cells #[Value.int IntKind.u64 ht, Value.int IntKind.i32 rd, Value.slice none 0 0] 44))
            case first =>
              by_cases hpos : 0 < t
              · go_wp2
                go_meet
                case rel => exact ⟨by simp [hpos], rfl⟩
              · go_wp2
                go_meet
                case rel => exact ⟨by simp [hpos], rfl⟩
            case rest =>
              obtain ⟨rfl, rfl⟩ := hcut
              generalize hq : (decide (0 < t) || !y) = q
              have HQ : Hid ((decide (0 < t) || !y) = q) := hq
              clear hq
              go_upto_if 85 with fail
              go_cut [] (fun wc => ∃ sa sc, CommitAt w2 wc ht rd sa t sc)
              case first =>
                cases q with
                | true =>
                  go_wp2
                  go_meet
                  case rel => exact ⟨_, _, CommitAt.made w2 ht rd t cs⟩
                | false =>
                  go_wp2
                  go_meet
                  case rel => exact ⟨_, _, CommitAt.bare w2 ht rd t (by have h := HQ.out; simp at h; omega)⟩
              case rest =>
                obtain ⟨sa, sc, hcom⟩ := hcut
                clear HQ hmk q
                go_wp2
                go_loopw [17] (fun i wr => ∃ (j : Nat) (A'' : Nat → Option Addr) (C'' : Nat → Nat), j ≤ t ∧ i = .int .i64 j ∧ SigRel w2 wr ht rd sa t sc j z A' A'' L C'' Z) (fun i _ => t - (intOf i).toNat)
                case atStart => exact ⟨0, A', C', Nat.zero_le _, rfl, SigRel.start hcom z A' A' L C' Z⟩
                case round =>
                  obtain ⟨j, A'', C'', hj, rfl, hsig⟩ := hrel
                  by_cases hjt : j < t
                  · obtain ⟨hsa, f, hf⟩ := hsig.com.room (by omega)
                    subst hsa
                    obtain ⟨D, off, rfl, _, hadr⟩ := ha2.at (k := 0) (by omega)
                    obtain ⟨S, so, rfl, hout⟩ := ho2.at (k := j) (by omega)
                    have hw := hsig.com.bel
                    have c2 := hsig.com.box.cell (i := 2) (by omega)
                    have cs := cell_keep hw (hout j (by omega))
                    have hran : wr.rangeAt D (off + j * 20) (bytes20 z (j * 20)) := range_keep hw (bytes20_range (n := 20 * n) hadr (j * 20) (by omega))
                    have hth : wr.there (w2.heap.size + 1) (j * 21) 21 := there_row hf _ _ (by omega)
                    have hbj : Byt wr 0 (A' j) (L j) (Z j) := ((hfam.byt j (by omega)).mono (Nat.zero_le _)).later hw
                    have hbjd : Byt wr.drew 0 (A' j) (L j) (Z j) := hbj.later (Below.refl _ _).drew
                    have hLj : L j ≤ 1048576 := by have := Tx.le_sumL L (k := j) (n := k) (by omega); omega
                    have hS1 : (⟨w2.heap.size, 2, none⟩ : Addr).block ≠ w2.heap.size + 1 := by simp
                    have hS2 : (⟨S, so + j, none⟩ : Addr).block ≠ w2.heap.size + 1 := by
                      have := lt_of_cell (hout j (by omega)); simp at this; simp; omega
                    have hS3 : D ≠ w2.heap.size + 1 := by have := lt_of_cell (hadr 0 (by omega)); simp at this; omega
                    clear hout hadr hf hbj
                    have hu45 := Try.underlying45
                    have hi45 : (Try.prog.info? 45).map (·.size) = some (bytes20 z (j * 20)).length := by rw [bytes20_len]; exact size45
                    have hlen := bytes20_len z (j * 20)
                    have hone := bytes20_one z (j * 20)
                    have hij : (0 : Int) ≤ (j : Int) := by omega
                    have hijt : (j : Int) < (t : Int) := by omega
                    have hijn : (j : Int) < (n : Int) := by omega
                    have hijk : (j : Int) < (k : Int) := by omega
                    have hszr := hsig.com.box.lt
                    simp only [comF, show ¬ (2 = 0) by decide, show ¬ (2 = 1) by decide, if_false] at c2
                    go_wp2_with fail
                    clear hw
                    go_region_held3 (fun w' => w'.cell? ⟨w2.heap.size, 2, none⟩ = some (.slice (some ⟨w2.heap.size + 1, 0, none⟩) t sc) ∧ w'.cell? ⟨S, so + j, none⟩ = some (.slice (A' j) (L j) (C' j)) ∧ w'.rangeAt D (off + j * 20) (bytes20 z (j * 20)) ∧ w'.there (w2.heap.size + 1) (j * 21) 21)
                      (with_reducible (first | exact keepS_store (by assumption) _ hS1 hS2 hS3 | exact keepS_below hbel3 (by assumption) | exact keepS_draw c2 cs hran hth))
                      (first | (go_at_call 18; refine (cloneBytes18 _ _ _ (Z j) _ hbjd hLj).mono ?_; rintro e w3 ⟨a3, c3, rfl, hnn3, hbyt3, hbel3⟩))
                    have hst := hsig.step hjt ((Below.refl _ wr).drew.trans hbel3) hnn3 hbyt3 (c := c3)
                    have HST : Hid (SigRel w2 (w3.setCells (w2.heap.size + 1) (j * 21) (sig21 z (j * 20) a3 (L j) c3).toList) ht rd (some ⟨w2.heap.size + 1, 0, none⟩) t sc (j + 1) z A' (fun i => if i = j then a3 else A'' i) L (fun i => if i = j then c3 else C'' i) Z) := by
                      rw [sig21_list]; exact hst
                    clear hst hsig hbyt3 hbel3 hnn3 hbjd hran hth cs c2 hone hlen hi45
                    go_wp2
                    go_roundw
                    case rel => exact ⟨j + 1, _, _, by omega, by go_num, HST.out⟩
                    case measure => simp [intOf]; omega
                  · have hjt2 : j = t := by omega
                    subst hjt2
                    obtain ⟨c0, c1, c2⟩ := comF_cells hsig.com.box
                    go_wp2_with fail
                    refine (ZZEncoded19 w2.heap.size ht rd (w2.heap.size + 1) j sc sa z A'' L C'' _ c0 c1 c2 (fun h => (hsig.com.room h).1) (by omega) hsig.sig).mono ?_
                    rintro e w5 ⟨rfl, henc⟩
                    have hfin := FinAt.of_enc hsig henc ha2 ho2 hfam hmk
                    have hbel5 : Below w.heap.size w w5 := (hbel.trans (hsig.com.bel.mono hbel.size)).trans (henc.bel.mono (by have := hbel.size; have := hsig.com.bel.size; omega))
                    generalize wr.heap.size + 1 = E at hfin ⊢
                    generalize wr.heap.size = G at hfin
                    generalize (fun i => G + 2 + i) = V at hfin
                    clear henc c0 c1 c2 hsig ha2 ho2 hfam hbel2 hbel hcom
                    have e0 := hfin.e0
                    have e1 := hfin.e1
                    have e2 := hfin.e2
                    go_wp2
                    clear e0 e1 e2
                    go_loopw [19] (fun x wx => ∃ i : Nat, i ≤ j ∧ x = .int .i64 i ∧ Below w5.heap.size w5 wx) (fun x _ => j - (intOf x).toNat)
                    case atStart => exact ⟨0, Nat.zero_le _, rfl, Below.refl _ _⟩
                    case round =>
                      obtain ⟨i, hi, rfl, hbx⟩ := hrel
                      by_cases hij : i < j
                      · have hfx := hfin.later hbx
                        have e2 := hfx.e2
                        have g0 := hfx.g0 i hij
                        have g1 := hfx.g1 i hij
                        have hbx2 : Below w5.heap.size w5 (wr.alloc (Obj.cells #[Value.slice (some ⟨V i, 0, none⟩) 20 20, Value.slice (A'' i) (L i) (C'' i)] 57)) := hbx.alloc hbx.size _
                        have hil : (i : Int) < (j : Int) := by omega
                        have n0 : (wr.alloc (Obj.cells #[Value.slice (some ⟨V i, 0, none⟩) 20 20, Value.slice (A'' i) (L i) (C'' i)] 57)).cell? ⟨wr.heap.size, 0, none⟩ = some (.slice (some ⟨V i, 0, none⟩) 20 20) := by simp
                        have n1 : (wr.alloc (Obj.cells #[Value.slice (some ⟨V i, 0, none⟩) 20 20, Value.slice (A'' i) (L i) (C'' i)] 57)).cell? ⟨wr.heap.size, 1, none⟩ = some (.slice (A'' i) (L i) (C'' i)) := by simp
                        go_wp2
                        generalize wr.alloc (Obj.cells #[Value.slice (some ⟨V i, 0, none⟩) 20 20, Value.slice (A'' i) (L i) (C'' i)] 57) = W6 at n0 n1 hbx2 ⊢
                        have hf6 := hfin.later hbx2
                        clear hfx e2 g0 g1 hbx hfin
                        generalize wr.heap.size = N6 at n0 n1 ⊢
                        obtain ⟨D, off, rfl, _, hadr⟩ := hf6.ad.at (k := 0) (by omega)
                        obtain ⟨S, so, rfl, hout⟩ := hf6.so.at (k := i) (by omega)
                        go_loopw [21] (fun x wx => ∃ q nq : Nat, q ≤ 20 ∧ x = .int .i64 q ∧ wx = W6.drewN nq) (fun x _ => 20 - (intOf x).toNat)
                        case atStart => exact ⟨0, 0, Nat.zero_le _, rfl, rfl⟩
                        case round =>
                          obtain ⟨q, nq, hq, rfl, rfl⟩ := hrel
                          by_cases hq20 : q < 20
                          · have v1 := hf6.vb i hij q hq20
                            have v2 := hadr (i * 20 + q) (by omega)
                            rw [← Nat.add_assoc] at v2
                            have hq0 : (0 : Int) ≤ (q : Int) := by omega
                            have hq1 : (q : Int) < 20 := by omega
                            have hi0 : (0 : Int) ≤ (i : Int) := by omega
                            have hin : (i : Int) < (n : Int) := by omega
                            have hne : (z (i * 20 + q) != z (i * 20 + q)) = false := by simp
                            clear hadr hout hf6
                            go_wp2
                            go_region_held3 (fun w' => w'.cell? ⟨N6, 0, none⟩ = some (.slice (some ⟨V i, 0, none⟩) 20 20) ∧ w'.cell? ⟨V i, q, none⟩ = some (.int .u8 (z (i * 20 + q))) ∧ w'.cell? ⟨D, off + i * 20 + q, none⟩ = some (.int .u8 (z (i * 20 + q)))) (go_keep) (fail)
                            go_wp2
                            go_roundw
                            case rel => exact ⟨q + 1, nq + 1, by omega, by go_num, rfl⟩
                            case measure => simp [intOf]; omega
                          · have hb1 : ∀ n, Byt (W6.drewN n) 0 (A'' i) (L i) (Z i) := fun n => byt_drewN (hf6.by2 i hij) n
                            have hb2 : ∀ n, Byt (W6.drewN n) 0 (A' i) (L i) (Z i) := fun n => byt_drewN (hf6.by1 i hij) n
                            have hnil := hf6.nil i hij
                            have s1 := hout i (by omega)
                            have hi0 : (0 : Int) ≤ (i : Int) := by omega
                            have hik : (i : Int) < (k : Int) := by omega
                            have hLi : L i ≤ 1048576 := by have := Tx.le_sumL L (k := i) (n := k) (by omega); omega
                            have HB1 : Hid (∀ n, Byt (W6.drewN n) 0 (A'' i) (L i) (Z i)) := hb1
                            have HB2 : Hid (∀ n, Byt (W6.drewN n) 0 (A' i) (L i) (Z i)) := hb2
                            have HN : Hid (A'' i = none ↔ A' i = none) := hnil
                            clear hadr hout hf6 hb1 hb2 hnil
                            go_wp2
                            go_region_held3 (fun w' => w'.cell? ⟨N6, 1, none⟩ = some (.slice (A'' i) (L i) (C'' i)) ∧ w'.cell? ⟨S, so + i, none⟩ = some (.slice (A' i) (L i) (C' i))) (go_keep)
                              (first | (go_at_call 20; refine (sameBytes20 _ _ _ _ _ (Z i) (W6.drewN nq).drew (HB1.out (nq + 1)) (HB2.out (nq + 1)) HN.out hLi).mono ?_; rintro e w8 ⟨rfl, nq8, rfl⟩))
                            go_wp2
                            go_roundw
                            case rel => exact ⟨i + 1, by omega, by go_num, below_drewN hbx2 _⟩
                            case measure => simp [intOf]; omega
                      · go_wp2
                        go_ret
                        exact ⟨rfl, hbel5.trans (hbx.mono hbel5.size)⟩

end Go.Proofs.Qxb6600223a.TxW
