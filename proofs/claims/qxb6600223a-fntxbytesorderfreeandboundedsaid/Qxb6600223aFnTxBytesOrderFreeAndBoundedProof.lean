/-
  THE PROOF of 'Rows.FnTxBytesOrderFreeAndBoundedSaid': the frame of the guide's shells at a slice of slices of bytes.
-/
import Derived.Test.Qxb6600223aRows
import Derived.WalkKit
import Derived.ProofKit
import Derived.OpenShut
import Derived.ShutString
import Derived.ChangeOld
import Derived.Below
import Derived.Deep.Matrix
import Derived.Test.Qxb6600223aTxLaw
namespace Go.Proofs.Qxb6600223a.fnTxBytesOrderFreeAndBounded
open Go.ChangeShapes Go.WideShapes Go.ChangeAt Go.RowKit
set_option linter.unusedVariables false

theorem own : ownKnob Try.prog.godebug = none := by kernel_rfl
theorem laidOut : laidOutB Try.prog = true := by kernel_rfl

/-- what is read of a slice of byte strings that came in, as the walk asks it. -/
theorem opened {H : Type} {enc : TypeId × Value → H} {W : World} {fuel : Nat} {a : Option Addr} {len cap : Nat} {x : DataW H × List MemPlace}
    (hf : DataW.trod enc Try.prog W 0 (fun _ => true) true fuel 26 [.slice a len cap] = some x) :
    ∃ (A : Nat → Option Addr) (L C : Nat → Nat) (Z : Nat → Nat → Int), TxW.Outer W a len A L C ∧ (∀ i, i < len → TxW.Byt W 0 (A i) (L i) (Z i)) ∧ len ≤ maxLen ∧ ∀ i, i < len → L i ≤ maxLen := by
  rcases Go.Deep.open_int_rows Try.underlying26 Try.underlying37 Try.underlying5 (by kernel_rfl) (by kernel_rfl) hf with ⟨hcs, _⟩ | ⟨p, l, c, A, L, C, Z, hcs, _, hl, hm, _, hr⟩
  · simp at hcs
    obtain ⟨rfl, rfl, rfl⟩ := hcs
    exact ⟨fun _ => none, fun _ => 0, fun _ => 0, fun _ _ => 0, ⟨fun _ => rfl, fun p hp => by cases hp⟩, fun i hi => by omega, Nat.zero_le _, fun i hi => by omega⟩
  · simp at hcs
    obtain ⟨rfl, rfl, rfl⟩ := hcs
    refine ⟨A, L, C, fun r c => (Z r).getD c 0, ⟨(fun hh => by cases hh), fun q hq i hi => ?_⟩, fun i hi => ?_, Nat.le_trans hl hm, fun i hi => ?_⟩
    · simp only [Option.some.injEq] at hq
      subst hq
      exact (hr i (by omega)).1
    · obtain ⟨_, h1, _, _, _, h5, h6⟩ := hr i (by omega)
      exact ⟨fun hh => by have := h5 hh; omega, fun q hq => ⟨Nat.zero_le _, fun j hj => (h6 q hq).2 j (by omega)⟩⟩
    · obtain ⟨_, h1, h2, _⟩ := hr i (by omega)
      exact Nat.le_trans h1 h2

set_option maxRecDepth 100000 in
theorem lifted (os : Os) (started : os.Started) (H : Type) (enc : TypeId × Value → H) :
    ReturnsInHanded {} Try.checked os 6 .any (Rows.fnTxBytesOrderFreeAndBoundedSpec.pre6 enc Try.prog Try.f6 Rows.fnTxBytesOrderFreeAndBoundedRow.domain false) (Rows.fnTxBytesOrderFreeAndBoundedSpec.post enc Try.prog Try.f6 false true false false) := by
  refine returnsInHanded_of_change (C := Try.checked) own started (by kernel_rfl) Try.func6
    (ChangeSpec.witness6 (enc := enc) (C := Try.checked) false ⟨#[], #[.slice none 0 0], []⟩ 8 (by kernel_rfl) (by kernel_rfl) (by kernel_rfl) (by kernel_rfl)) ?_
  intro W base args ds gs before hval0 hW hcnd _
  have hval : ∀ (j : Nat) t v, Try.f6.params[j]? = some t → args[j]? = some v → Value.okWide Try.prog W .any base t v := hval0
  have hW' := hW
  obtain ⟨p, q, hA0, hV, rfl, hfz, hnd⟩ := hW
  have hA : DataW.TrodAll enc Try.prog W 0 (fun _ => true) true Try.f6.params.toList args.toList ds p := hA0
  rw [Try.params6] at hA hval
  obtain ⟨v0, vs0, d0, ds0, p0, q0, hargs, rfl, rfl, h0, r0⟩ := trodAll_cons hA
  obtain ⟨rfl, rfl, rfl⟩ := trodAll_nil r0
  obtain rfl : args = #[v0] := by cases args; simp_all
  obtain ⟨rfl, rfl⟩ := trodVars_none hV
  obtain ⟨a0, len0, cap0, rfl⟩ := okWide_slice Try.underlying26 (hval 0 26 v0 rfl rfl)
  have k0 := h0
  have lt0 : ∀ x ∈ p0, x.block < W.heap.size := by obtain ⟨m, hm⟩ := k0; exact DataW.trod_lt m _ _ _ hm
  obtain ⟨A, L, C, Z, ho, hb, hn, hL⟩ : ∃ (A : Nat → Option Addr) (L C : Nat → Nat) (Z : Nat → Nat → Int), TxW.Outer W a0 len0 A L C ∧ (∀ i, i < len0 → TxW.Byt W 0 (A i) (L i) (Z i)) ∧ len0 ≤ maxLen ∧ ∀ i, i < len0 → L i ≤ maxLen := by
    obtain ⟨fuel, hf⟩ := h0
    exact opened (by simpa [Value.cells] using hf)
  clear hA0 hval0
  refine (TxW.law6 a0 len0 cap0 A L C Z W ho hb hn hL).mono fun e W' ⟨he, bel⟩ => ?_
  subst he
  exact ⟨_, rfl, _, _, _, [], _, [], hW', trodAll_mk1 (shut_bool Try.underlying4 _), (trodAll_cons_mk (Below.trod laidOut (by kernel_rfl) (of_decide_eq_true (by kernel_rfl)) k0 bel lt0) trodAll_mk0), rfl, bel.frame _, fun h => by cases h⟩

theorem over : Rows.fnTxBytesOrderFreeAndBoundedRow.holds Try.pinned (OpenSpec.ofChange Rows.fnTxBytesOrderFreeAndBoundedSpec) :=
  OpenClaim.holds_of_wide 6 Try.f6 rfl rfl rfl rfl rfl rfl rfl ⟨rfl, rfl, rfl, rfl, rfl⟩ rfl rfl rfl rfl rfl (by kernel_rfl) Try.func6 (by kernel_rfl)
    (of_decide_eq_true (by kernel_rfl)) (by unfold Func.isWrapper; first | (rw [if_pos (by decide +kernel)]; kernel_rfl) | (rw [if_neg (by decide +kernel)]; exact ⟨rfl, rfl⟩))
    (fun os started H enc _ => lifted os started H enc)

/-- THE STATEMENT -/
theorem proved : Rows.FnTxBytesOrderFreeAndBoundedSaid :=
  over

end Go.Proofs.Qxb6600223a.fnTxBytesOrderFreeAndBounded
