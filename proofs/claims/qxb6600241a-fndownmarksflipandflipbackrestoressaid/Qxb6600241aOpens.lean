/-
  WHAT IS READ OF A SLICE OF STRINGS AND OF A SLICE OF BOOLS THAT CAME IN.
-/
import Derived.Test.Qxb6600241aCopies
import Derived.SliceStrings
import Derived.Deep.Slices
import Derived.OpenShut
namespace Go.Proofs.Qxb6600241a.Dm
open Go.RowKit Go.ChangeShapes

theorem openedStrings {H : Type} {enc : TypeId × Value → H} {W : World} {fuel : Nat} {a : Option Addr} {len cap : Nat} {x : DataW H × List MemPlace}
    (hf : DataW.trod enc Try.prog W 0 (fun _ => true) true fuel 22 [.slice a len cap] = some x) :
    ∃ S : Nat → ByteArray, Cells W a len (fun i => .string (S i)) ∧ len ≤ maxLen ∧ ∀ i, i < len → (S i).size ≤ maxLen := by
  rcases open_strings Try.underlying22 Try.underlying9 (by kernel_rfl) hf with ⟨hcs, _⟩ | ⟨p, l, c, ss, hcs, _, hl, hm, hz, _, hcell, hsz⟩
  · simp at hcs
    obtain ⟨rfl, rfl, rfl⟩ := hcs
    exact ⟨fun _ => ByteArray.empty, ⟨fun _ => rfl, fun p hp => by cases hp⟩, Nat.zero_le _, fun i hi => by omega⟩
  · simp at hcs
    obtain ⟨rfl, rfl, rfl⟩ := hcs
    simp only [if_true] at hz
    refine ⟨fun i => ss.getD i ByteArray.empty, ⟨(fun hh => by cases hh), fun q hq i hi => ?_⟩, Nat.le_trans hl hm, fun i hi => ?_⟩
    · simp only [Option.some.injEq] at hq
      subst hq
      exact hcell i (by omega)
    · apply hsz
      have : i < ss.length := by omega
      simp [List.getD, this]

theorem openedBools {H : Type} {enc : TypeId × Value → H} {W : World} {fuel : Nat} {a : Option Addr} {len cap : Nat} {x : DataW H × List MemPlace}
    (hf : DataW.trod enc Try.prog W 0 (fun _ => true) true fuel 23 [.slice a len cap] = some x) :
    ∃ T : Nat → Bool, Cells W a len (fun i => .bool (T i)) ∧ len ≤ maxLen := by
  rcases Go.Deep.open_slice1 Try.underlying23 (by kernel_rfl) hf with ⟨hcs, _⟩ | ⟨p, l, c, m, n, V, D, Pl, hcs, _, hl, hm, hmm, _, hr⟩
  · simp at hcs
    obtain ⟨rfl, rfl, rfl⟩ := hcs
    exact ⟨fun _ => false, ⟨fun _ => rfl, fun p hp => by cases hp⟩, Nat.zero_le _⟩
  · simp at hcs
    obtain ⟨rfl, rfl, rfl⟩ := hcs
    simp only [if_true] at hmm
    obtain ⟨T, hT⟩ := Go.Deep.choose_lt (n := len) (p := fun i (y : Bool) => W.cell? (p.add i) = some (.bool y)) (fun i hi => by
      obtain ⟨h1, h2⟩ := hr i (by omega)
      obtain ⟨y, hy, _⟩ := DataW.trod_bool Try.underlying4 h2
      simp only [List.cons.injEq, and_true] at hy
      exact ⟨y, by rw [h1, hy]⟩)
    refine ⟨T, ⟨(fun hh => by cases hh), fun q hq i hi => ?_⟩, Nat.le_trans hl hm⟩
    simp only [Option.some.injEq] at hq
    subst hq
    exact hT i hi

end Go.Proofs.Qxb6600241a.Dm
