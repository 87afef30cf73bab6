/-
  A SLICE OF REGISTRATIONS THAT CAME IN, OPENED.
-/
import Derived.Test.Qxb6605154aLawA
import Derived.Deep.SlicePairs
namespace Go.Proofs.Qxb6605154a
open Go.ChangeShapes Go.WideShapes Go.ChangeAt Go.RowKit

theorem cells31 : Try.prog.cellsOf 31 = 2 := by kernel_rfl
theorem cells9 : Try.prog.cellsOf 9 = 1 := by kernel_rfl

theorem pairsIn_of {H : Type} {enc : TypeId × Value → H} {W : World} {fuel : Nat} {a : Option Addr} {len cap : Nat} {x : DataW H × List MemPlace}
    (hf : DataW.trod enc Try.prog W 0 (fun _ => true) true fuel 22 [.slice a len cap] = some x) : ∃ I U, PairsIn W a len I U := by
  rcases Go.Deep.open_slice_pairs Try.underlying22 Try.underlying31 cells31 rfl rfl cells9 cells9 hf with ⟨hcs, _⟩ | ⟨y, l, c, m, n, V0, V1, D0, D1, P0, P1, hcs, _, hl, hm, hmm, _, hrow⟩
  · simp only [List.cons.injEq, Value.slice.injEq, and_true] at hcs
    obtain ⟨rfl, rfl, rfl⟩ := hcs
    exact ⟨fun _ => ByteArray.empty, fun _ => ByteArray.empty, ⟨Nat.zero_le _, fun _ => rfl, fun r hr => absurd hr (Nat.not_lt_zero _), .inl rfl⟩⟩
  · simp only [List.cons.injEq, Value.slice.injEq, and_true] at hcs
    obtain ⟨rfl, rfl, rfl⟩ := hcs
    simp only [if_true] at hmm
    subst hmm
    have h0 : ∀ i, i < m → ∃ s : ByteArray, V0 i = .string s ∧ s.size ≤ maxLen := fun i hi => by
      obtain ⟨_, _, h2, _⟩ := hrow i hi
      obtain ⟨s, h3, _, h4⟩ := DataW.trod_string Try.underlying9 h2
      exact ⟨s, by simpa using h3, h4⟩
    have h1 : ∀ i, i < m → ∃ s : ByteArray, V1 i = .string s ∧ s.size ≤ maxLen := fun i hi => by
      obtain ⟨_, _, _, h2⟩ := hrow i hi
      obtain ⟨s, h3, _, h4⟩ := DataW.trod_string Try.underlying9 h2
      exact ⟨s, by simpa using h3, h4⟩
    obtain ⟨I, hI⟩ := Go.Deep.choose_lt h0
    obtain ⟨U, hU⟩ := Go.Deep.choose_lt h1
    refine ⟨I, U, ⟨by omega, fun h => (by cases h), fun r hr => ⟨(hI r (by omega)).2, (hU r (by omega)).2⟩, ?_⟩⟩
    by_cases hz : len = 0
    · exact .inl hz
    · obtain ⟨b, off, spot⟩ := y
      have hs : spot = none := by simpa [Addr.add] using World.cell?_spot (hrow 0 (by omega)).1
      subst hs
      refine .inr ⟨b, off, rfl, fun r hr => ?_⟩
      obtain ⟨h2, h3, _⟩ := hrow r (by omega)
      rw [add_plain] at h2 h3
      exact ⟨by rw [h2, (hI r (by omega)).1], by rw [Nat.add_assoc, h3, (hU r (by omega)).1]⟩
end Go.Proofs.Qxb6605154a
