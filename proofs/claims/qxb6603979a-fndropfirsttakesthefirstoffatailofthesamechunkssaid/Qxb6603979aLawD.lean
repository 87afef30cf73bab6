/-
  dropFirst's LAW, WALKED.
-/
import Derived.Test.Qxb6603979aWalkO
import Derived.Deep.DeepCutAuto
namespace Go.Proofs.Qxb6603979a
open Go.ChangeShapes Go.WideShapes Go.ChangeAt Go.RowKit

/-- What the law is told of its argument. -/
structure GridIn (w : World) (a : Option Addr) (N : Nat) (A : Nat → Option Addr) (L C : Nat → Nat) (Z : Nat → List Int) : Prop where
  fits : N ≤ maxLen
  each : ∀ r, r < N → L r ≤ maxLen
  long : ∀ r, r < N → L r ≤ (Z r).length
  top : GridAt w a N A L C
  cells : ∀ r, r < N → 0 < L r → ∃ b' o', A r = some ⟨b', o', none⟩ ∧ ∀ c, c < L r → w.cell? ⟨b', o' + c, none⟩ = some (.int .i64 ((Z r).getD c 0))

theorem lensTo_cell {w : World} {b N : Nat} {L : Nat → Nat} (h : w.rowIs b 3 N (lensTo L N)) (r : Nat) (hr : r < N) : w.cell? ⟨b, r, none⟩ = some (.int .i64 (L r : Int)) := by
  have := h.cell hr
  unfold lensTo at this
  rwa [if_pos hr] at this
theorem rowsTo_cell {w : World} {b N : Nat} {gs L : Nat → Nat} {k : Nat} (h : w.rowIs b 42 N (rowsTo gs L k)) (r : Nat) (hr : r < N) (hk : r < k) : w.cell? ⟨b, r, none⟩ = some (.slice (some ⟨gs r, 0, none⟩) (L r) (L r)) := by
  have := h.cell hr
  unfold rowsTo at this
  rwa [if_pos hk] at this
theorem rowsTo_none {w : World} {b N : Nat} {gs L : Nat → Nat} {k : Nat} (h : w.rowIs b 42 N (rowsTo gs L k)) (r : Nat) (hr : r < N) (hk : k ≤ r) : w.cell? ⟨b, r, none⟩ = some (.slice none 0 0) := by
  have := h.cell hr
  unfold rowsTo at this
  rwa [if_neg (by omega)] at this
theorem rowsTo_step {w : World} {b N k : Nat} {gs L : Nat → Nat} (h : w.rowIs b 42 N (rowsTo gs L k)) : (w.setCell ⟨b, k, none⟩ (.slice (some ⟨gs k, 0, none⟩) (L k) (L k))).rowIs b 42 N (rowsTo gs L (k + 1)) := by
  refine (h.set k _).congr fun i _ => ?_
  unfold rowsTo
  by_cases e : i = k
  · subst e; rw [if_pos rfl, if_pos (by omega)]
  · rw [if_neg e]
    by_cases h1 : i < k
    · rw [if_pos h1, if_pos (by omega)]
    · rw [if_neg h1, if_neg (by omega)]

theorem Dropped.at {W : World} {G O N kk M : Nat} {gs L : Nat → Nat} {Z : Nat → List Int} (h : Dropped W G O N kk gs L Z) (hN : N = kk + M) (r : Nat) (hr : r < M) :
    W.cell? ⟨G, kk + r, none⟩ = some (.slice (some ⟨gs (kk + r), 0, none⟩) (L (kk + r)) (L (kk + r))) := by
  have := h.row.cell (show kk + r < N by omega)
  rw [if_neg (by omega)] at this
  unfold rowsTo at this
  rwa [if_pos (by omega)] at this
theorem Dropped.at1 {W : World} {G O N kk : Nat} {gs L : Nat → Nat} {Z : Nat → List Int} (h : Dropped W G O N kk gs L Z) (r : Nat) (h1 : 1 ≤ r) (hr : r < N) :
    W.cell? ⟨G, r, none⟩ = some (.slice (some ⟨gs r, 0, none⟩) (L r) (L r)) := by
  have := h.row.cell hr
  rw [if_neg (by omega)] at this
  unfold rowsTo at this
  rwa [if_pos hr] at this
theorem Dropped.first0 {W : World} {G O N kk : Nat} {gs L : Nat → Nat} {Z : Nat → List Int} (h : Dropped W G O N kk gs L Z) (hk : kk = 0) (hN : 0 < N) :
    W.cell? ⟨G, 0, none⟩ = some (.slice (some ⟨gs 0, 0, none⟩) (L 0) (L 0)) := by
  have := h.row.cell hN
  rw [if_neg (by omega)] at this
  unfold rowsTo at this
  rwa [if_pos hN] at this
theorem Dropped.first1 {W : World} {G O N kk : Nat} {gs L : Nat → Nat} {Z : Nat → List Int} (h : Dropped W G O N kk gs L Z) (hk : kk = 1) (hN : 0 < N) :
    W.cell? ⟨G, 0, none⟩ = some (.slice none 0 0) := by
  have := h.row.cell hN
  rwa [if_pos ⟨hk, rfl⟩] at this
theorem Tail.sumL_le {N kk M f2 : Nat} {L : Nat → Nat} {Z : Nat → List Int} {f : Nat} {n size : Int} (h : Tail N kk M f2 L Z f n size) : sumL (fun r => L (kk + r)) M ≤ sumL L N := by
  have hs := h.sum
  have hk := h.few
  by_cases e : kk = 0
  · subst e
    simp only [Nat.zero_add] at hs ⊢
    rw [hs]
    exact Nat.le_refl _
  · obtain rfl : kk = 1 := by omega
    rw [hs, sumL_shift]
    omega
theorem live_full_length {L : Nat → Nat} {Z : Nat → List Int} {f N : Nat} (h : ∀ r, r < N → L r ≤ (Z r).length) : (liveTo L Z f N 0).length = sumL L N - f := by
  have h1 := flatTo_length L Z N h
  simp only [liveTo, List.length_drop, List.length_append, List.take_zero, List.length_nil, h1]
  omega
end Go.Proofs.Qxb6603979a
