/-
  THE PROOF of 'Rows.FnEncodedCommitKeepsEverySignatureSaid': the frame of the guide's shells at a slice of arrays and a slice of slices.
-/
import Derived.Test.Qxb6600223aRows
import Derived.WalkKit
import Derived.ProofKit
import Derived.OpenShut
import Derived.ShutString
import Derived.ChangeOld
import Derived.Below
import Derived.Deep.Matrix
import Derived.Test.Qxb6600223aEncLaw
namespace Go.Proofs.Qxb6600223a.fnEncodedCommitKeepsEverySignature
open Go.ChangeShapes Go.WideShapes Go.ChangeAt Go.RowKit
set_option linter.unusedVariables false

theorem own : ownKnob Try.prog.godebug = none := by kernel_rfl
theorem laidOut : laidOutB Try.prog = true := by kernel_rfl
theorem cells45 : Try.prog.cellsOf 45 = 20 := by kernel_rfl
theorem cells5 : Try.prog.cellsOf 5 = 1 := by kernel_rfl

/-- what is read of a slice of byte strings that came in, as the walk asks it. -/
theorem opened {H : Type} {enc : TypeId × Value → H} {W : World} {fuel : Nat} {a : Option Addr} {len cap : Nat} {x : DataW H × List MemPlace}
    (hf : DataW.trod enc Try.prog W 0 (fun _ => true) true fuel 26 [.slice a len cap] = some x) :
    ∃ (A : Nat → Option Addr) (L C : Nat → Nat) (Z : Nat → Nat → Int), TxW.Outer W a len A L C ∧ (∀ i, i < len → TxW.Byt W 0 (A i) (L i) (Z i)) ∧ len ≤ maxLen ∧ ∀ i, i < len → L i ≤ maxLen := by
  rcases Go.Deep.open_int_rows Try.underlying26 Try.underlying37 Try.underlying5 (by kernel_rfl) (by kernel_rfl) hf with ⟨hcs, _⟩ | ⟨p, l, c, A, L, C, Z, hcs, _, hl, hm, _, hr⟩
  · simp at hcs
    obtain ⟨rfl, rfl, rfl⟩ := hcs
    exact ⟨fun _ => none, fun _ => 0, fun _ => 0, fun _ _ => 0, ⟨fun _ => rfl, fun p hp => by cases hp⟩, fun i hi => by omega, Nat.zero_le _, fun i hi => by omega⟩
  · simp at hcs
    obtain ⟨rfl, rfl, rfl⟩ := hcs
    refine ⟨A, L, C, fun r c => (Z r).getD c 0, ⟨(fun hh => by cases hh), fun q hq i hi => ?_⟩, fun i hi => ?_, Nat.le_trans hl hm, fun i hi => ?_⟩
    · simp only [Option.some.injEq] at hq
      subst hq
      exact (hr i (by omega)).1
    · obtain ⟨_, h1, _, _, _, h5, h6⟩ := hr i (by omega)
      exact ⟨fun hh => by have := h5 hh; omega, fun q hq => ⟨Nat.zero_le _, fun j hj => (h6 q hq).2 j (by omega)⟩⟩
    · obtain ⟨_, h1, h2, _⟩ := hr i (by omega)
      exact Nat.le_trans h1 h2

theorem add_add (a : Addr) (m n : Nat) : (a.add m).add n = a.add (m + n) := by
  unfold Addr.add
  by_cases hm : m = 0
  · subst hm; simp
  · by_cases hn : n = 0
    · subst hn; simp
    · simp [hm, hn]; omega

/-- what is read of a slice of twenty-byte arrays that came in: its bytes, one behind the other. -/
theorem openedAddrs {H : Type} {enc : TypeId × Value → H} {W : World} {fuel : Nat} {a : Option Addr} {len cap : Nat} {x : DataW H × List MemPlace}
    (hf : DataW.trod enc Try.prog W 0 (fun _ => true) true fuel 39 [.slice a len cap] = some x) :
    ∃ z : Nat → Int, TxW.Byt W 0 a (20 * len) z ∧ len ≤ maxLen := by
  rcases Go.Deep.open_slice Try.underlying39 hf with ⟨hcs, _⟩ | ⟨p, l, c, m, n, D, Pl, hcs, _, hl, hm, hmm, _, hr⟩
  · simp at hcs
    obtain ⟨rfl, rfl, rfl⟩ := hcs
    exact ⟨fun _ => 0, ⟨fun _ => rfl, fun p hp => by cases hp⟩, Nat.zero_le _⟩
  · simp at hcs
    obtain ⟨rfl, rfl, rfl⟩ := hcs
    simp only [if_true] at hmm
    subst hmm
    rw [cells45] at hr
    have key : ∀ q, q < 20 * len → ∃ v : Int, W.cell? (p.add q) = some (.int .u8 v) := by
      intro q hq
      obtain ⟨cs', hc1, hc2⟩ := hr (q / 20) (by omega)
      obtain ⟨_, hlen, hcell⟩ := World.cells?_some hc1
      obtain ⟨xs, mm, _, _, _, hxl, hxs⟩ := DataW.trod_array Try.underlying45 hc2
      have h1 := hxs (q % 20) (by omega)
      rw [cells5, Nat.mul_one] at h1
      have hlt : q % 20 < xs.length := by omega
      rw [List.getElem?_eq_getElem hlt] at h1
      obtain ⟨v, hv, _, _⟩ := DataW.trod_int Try.underlying5 h1
      refine ⟨v, ?_⟩
      have h2 := hcell (q % 20) (by omega)
      rw [add_add, show q / 20 * 20 + q % 20 = q by omega] at h2
      rw [h2]
      have h3 := congrArg (fun l : List Value => l[0]?) hv
      simp only [List.getElem?_take, List.getElem?_drop] at h3
      simpa using h3
    obtain ⟨z, hz⟩ := Go.Deep.choose_lt key
    exact ⟨z, ⟨(fun hh => by cases hh), fun q hq => ⟨Nat.zero_le _, fun i hi => by simp only [Option.some.injEq] at hq; subst hq; exact hz i hi⟩⟩, Nat.le_trans hl hm⟩

set_option maxRecDepth 100000 in
theorem lifted (os : Os) (started : os.Started) (H : Type) (enc : TypeId × Value → H) :
    ReturnsInHanded {} Try.checked os 7 .any (Rows.fnEncodedCommitKeepsEverySignatureSpec.pre6 enc Try.prog Try.f7 Rows.fnEncodedCommitKeepsEverySignatureRow.domain false) (Rows.fnEncodedCommitKeepsEverySignatureSpec.post enc Try.prog Try.f7 false true false false) := by
  refine returnsInHanded_of_change (C := Try.checked) own started (by kernel_rfl) Try.func7
    (ChangeSpec.witness6 (enc := enc) (C := Try.checked) false ⟨#[], #[.bool false, .bool false, .int .u64 0, .int .i32 0, .slice none 0 0, .slice none 0 0], []⟩ 8 (by kernel_rfl) (by kernel_rfl) (by kernel_rfl) (by kernel_rfl)) ?_
  intro W base args ds gs before hval0 hW hcnd _
  have hval : ∀ (j : Nat) t v, Try.f7.params[j]? = some t → args[j]? = some v → Value.okWide Try.prog W .any base t v := hval0
  have hW' := hW
  obtain ⟨p, q, hA0, hV, rfl, hfz, hnd⟩ := hW
  have hA : DataW.TrodAll enc Try.prog W 0 (fun _ => true) true Try.f7.params.toList args.toList ds p := hA0
  rw [Try.params7] at hA hval
  obtain ⟨v0, vs0, d0, ds0, p0, q0, hargs, rfl, rfl, h0, r0⟩ := trodAll_cons hA
  obtain ⟨v1, vs1, d1, ds1, p1, q1, rfl, rfl, rfl, h1, r1⟩ := trodAll_cons r0
  obtain ⟨v2, vs2, d2, ds2, p2, q2, rfl, rfl, rfl, h2, r2⟩ := trodAll_cons r1
  obtain ⟨v3, vs3, d3, ds3, p3, q3, rfl, rfl, rfl, h3, r3⟩ := trodAll_cons r2
  obtain ⟨v4, vs4, d4, ds4, p4, q4, rfl, rfl, rfl, h4, r4⟩ := trodAll_cons r3
  obtain ⟨v5, vs5, d5, ds5, p5, q5, rfl, rfl, rfl, h5, r5⟩ := trodAll_cons r4
  obtain ⟨rfl, rfl, rfl⟩ := trodAll_nil r5
  obtain rfl : args = #[v0, v1, v2, v3, v4, v5] := by cases args; simp_all
  obtain ⟨rfl, rfl⟩ := trodVars_none hV
  obtain ⟨b0, rfl, rfl, rfl⟩ := open_bool Try.underlying4 (hval 0 4 v0 rfl rfl) h0
  obtain ⟨b1, rfl, rfl, rfl⟩ := open_bool Try.underlying4 (hval 1 4 v1 rfl rfl) h1
  obtain ⟨a2, rfl, rfl, rfl, w2⟩ := open_int Try.underlying38 (hval 2 38 v2 rfl rfl) h2
  obtain ⟨a3, rfl, rfl, rfl, w3⟩ := open_int Try.underlying21 (hval 3 21 v3 rfl rfl) h3
  obtain ⟨a4, len4, cap4, rfl⟩ := okWide_slice Try.underlying39 (hval 4 39 v4 rfl rfl)
  obtain ⟨a5, len5, cap5, rfl⟩ := okWide_slice Try.underlying26 (hval 5 26 v5 rfl rfl)
  have k4 := h4
  have k5 := h5
  have lt4 : ∀ x ∈ p4, x.block < W.heap.size := by obtain ⟨m, hm⟩ := k4; exact DataW.trod_lt m _ _ _ hm
  have lt5 : ∀ x ∈ p5, x.block < W.heap.size := by obtain ⟨m, hm⟩ := k5; exact DataW.trod_lt m _ _ _ hm
  obtain ⟨z, hz, hn4⟩ : ∃ z : Nat → Int, TxW.Byt W 0 a4 (20 * len4) z ∧ len4 ≤ maxLen := by
    obtain ⟨fuel, hf⟩ := h4
    exact openedAddrs (by simpa [Value.cells] using hf)
  obtain ⟨A, L, C, Z, ho, hb, hn5, hL⟩ : ∃ (A : Nat → Option Addr) (L C : Nat → Nat) (Z : Nat → Nat → Int), TxW.Outer W a5 len5 A L C ∧ (∀ i, i < len5 → TxW.Byt W 0 (A i) (L i) (Z i)) ∧ len5 ≤ maxLen ∧ ∀ i, i < len5 → L i ≤ maxLen := by
    obtain ⟨fuel, hf⟩ := h5
    exact opened (by simpa [Value.cells] using hf)
  clear hA0 hval0
  refine (TxW.law7 b0 b1 a2 a3 a4 a5 len4 cap4 len5 cap5 z A L C Z W hz ho hb hn4 hn5 hL).mono fun e W' ⟨he, bel⟩ => ?_
  subst he
  exact ⟨_, rfl, _, _, _, [], _, [], hW', trodAll_mk1 (shut_bool Try.underlying4 _), (trodAll_cons_mk (shut_bool Try.underlying4 _) (trodAll_cons_mk (shut_bool Try.underlying4 _) (trodAll_cons_mk (shut_int Try.underlying38 w2) (trodAll_cons_mk (shut_int Try.underlying21 w3)
    (trodAll_cons_mk (Below.trod laidOut (by kernel_rfl) (of_decide_eq_true (by kernel_rfl)) k4 bel lt4) (trodAll_cons_mk (Below.trod laidOut (by kernel_rfl) (of_decide_eq_true (by kernel_rfl)) k5 bel lt5) trodAll_mk0)))))), rfl, bel.frame _, fun h => by cases h⟩

theorem over : Rows.fnEncodedCommitKeepsEverySignatureRow.holds Try.pinned (OpenSpec.ofChange Rows.fnEncodedCommitKeepsEverySignatureSpec) :=
  OpenClaim.holds_of_wide 7 Try.f7 rfl rfl rfl rfl rfl rfl rfl ⟨rfl, rfl, rfl, rfl, rfl⟩ rfl rfl rfl rfl rfl (by kernel_rfl) Try.func7 (by kernel_rfl)
    (of_decide_eq_true (by kernel_rfl)) (by unfold Func.isWrapper; first | (rw [if_pos (by decide +kernel)]; kernel_rfl) | (rw [if_neg (by decide +kernel)]; exact ⟨rfl, rfl⟩))
    (fun os started H enc _ => lifted os started H enc)

/-- THE STATEMENT -/
theorem proved : Rows.FnEncodedCommitKeepsEverySignatureSaid :=
  over

end Go.Proofs.Qxb6600223a.fnEncodedCommitKeepsEverySignature
