/-
  THE WALKS of dropFirst's law: zzLensOfRevisions, zzLensOfChanges, zzShapeOK.
-/
import Derived.Test.Qxb6603979aWalkG
namespace Go.Proofs.Qxb6603979a
open Go.ChangeShapes Go.WideShapes Go.ChangeAt Go.RowKit

theorem Try.info3 : (Try.prog.info? 3).map (fun i => (i.zero, i.size, i.bytes)) = some (some (.int .i64 0), 1, 8) := by kernel_rfl

/-- The row of lengths, filled up to k. -/
def lensTo (L : Nat → Nat) (k : Nat) : Nat → Value := fun r => if r < k then .int .i64 (L r : Int) else .int .i64 0

theorem lensTo_step {w : World} {b N k : Nat} {L : Nat → Nat} (h : w.rowIs b 3 N (lensTo L k)) : (w.setCell ⟨b, k, none⟩ (.int .i64 (L k : Int))).rowIs b 3 N (lensTo L (k + 1)) := by
  refine (h.set k _).congr fun i _ => ?_
  unfold lensTo
  by_cases e : i = k
  · subst e; rw [if_pos rfl, if_pos (by omega)]
  · rw [if_neg e]
    by_cases h1 : i < k
    · rw [if_pos h1, if_pos (by omega)]
    · rw [if_neg h1, if_neg (by omega)]

set_option maxHeartbeats 400000 in
theorem lens23 (a : Option Addr) (N cap : Nat) (A : Nat → Option Addr) (L C : Nat → Nat) (w : World) (hN : N ≤ 65536) (g : GridAt w a N A L C) :
    Calls Try.prog 23 #[.slice a N cap] w fun e w' => e = .returned (.slice (some ⟨w.heap.size, 0, none⟩) N N) ∧ w'.rowIs w.heap.size 3 N (lensTo L N) ∧ Below w.heap.size w w' := by
  have hmk := run_make_row' (P := Try.prog) 38 3 (.int .i64 0) 8 Try.underlying38 Try.info3 rfl .i64 .i64 N (by omega) (by omega)
  go_enter Try.func23, Try.ntmps23
  go_wp2
  go_loopw [4] (fun i wr => ∃ k : Nat, i = .int .i64 (k : Int) ∧ k ≤ N ∧ Hid (wr.rowIs w.heap.size 3 N (lensTo L k)) ∧ Hid (Below w.heap.size w wr)) (fun i _ => N - (intOf i).toNat)
  case atStart =>
    refine ⟨0, rfl, Nat.zero_le _, ?_, (Below.refl _ _).alloc (Nat.le_refl _) _⟩
    exact World.rowIs_made w (.int .i64 0) N 3
  case round =>
    obtain ⟨k, rfl, hk, HR, HB⟩ := hrel
    by_cases hlt : k < N
    · obtain ⟨b, off, rfl, hz⟩ := g.pos (by omega)
      have c1 : wr.cell? ⟨b, off + k, none⟩ = some (.slice (A k) (L k) (C k)) := cell_later HB.out (hz k hlt)
      have c2 := HR.out.cell hlt
      have c3 := HR.out.frozen k
      clear hz
      go_wp2
      go_roundw
      case rel => exact ⟨k + 1, by go_num, by omega, lensTo_step HR.out, HB.out.setCell (Nat.le_refl _) _⟩
      case measure => simp [intOf]; omega
    · obtain rfl : k = N := by omega
      go_wp2
      go_ret
      exact ⟨rfl, HR.out, HB.out⟩

set_option maxHeartbeats 400000 in
theorem lens28 (a : Option Addr) (N cap : Nat) (A : Nat → Option Addr) (L C : Nat → Nat) (w : World) (hN : N ≤ 65536) (g : GridAt w a N A L C) :
    Calls Try.prog 28 #[.slice a N cap] w fun e w' => e = .returned (.slice (some ⟨w.heap.size, 0, none⟩) N N) ∧ w'.rowIs w.heap.size 3 N (lensTo L N) ∧ Below w.heap.size w w' := by
  have hmk := run_make_row' (P := Try.prog) 38 3 (.int .i64 0) 8 Try.underlying38 Try.info3 rfl .i64 .i64 N (by omega) (by omega)
  go_enter Try.func28, Try.ntmps28
  go_wp2
  go_loopw [4] (fun i wr => ∃ k : Nat, i = .int .i64 (k : Int) ∧ k ≤ N ∧ Hid (wr.rowIs w.heap.size 3 N (lensTo L k)) ∧ Hid (Below w.heap.size w wr)) (fun i _ => N - (intOf i).toNat)
  case atStart =>
    refine ⟨0, rfl, Nat.zero_le _, ?_, (Below.refl _ _).alloc (Nat.le_refl _) _⟩
    exact World.rowIs_made w (.int .i64 0) N 3
  case round =>
    obtain ⟨k, rfl, hk, HR, HB⟩ := hrel
    by_cases hlt : k < N
    · obtain ⟨b, off, rfl, hz⟩ := g.pos (by omega)
      have c1 : wr.cell? ⟨b, off + k, none⟩ = some (.slice (A k) (L k) (C k)) := cell_later HB.out (hz k hlt)
      have c2 := HR.out.cell hlt
      have c3 := HR.out.frozen k
      clear hz
      go_wp2
      go_roundw
      case rel => exact ⟨k + 1, by go_num, by omega, lensTo_step HR.out, HB.out.setCell (Nat.le_refl _) _⟩
      case measure => simp [intOf]; omega
    · obtain rfl : k = N := by omega
      go_wp2
      go_ret
      exact ⟨rfl, HR.out, HB.out⟩

/-- A chunk's size. -/
def chunkS (size : Int) : Int := if 0 < size then size else 4096
theorem chunkS_pos (size : Int) : 1 ≤ chunkS size := by unfold chunkS; split <;> omega
theorem size35 (size : Int) (w : World) : Calls Try.prog 35 #[.int .i64 size] w fun e w' => e = .returned (.int .i64 (chunkS size)) ∧ w' = w := by
  unfold chunkS
  by_cases h : 0 < size
  · rw [if_pos h]
    go_enter Try.func35, Try.ntmps35
    go_wp2
    go_ret
    exact ⟨rfl, rfl⟩
  · rw [if_neg h]
    go_enter Try.func35, Try.ntmps35
    go_wp2
    go_ret
    exact ⟨rfl, rfl⟩

/-- WHAT zzShapeOK SAYS YES TO. -/
def Shaped (N : Nat) (L : Nat → Nat) (f n size : Int) : Prop :=
  (n = 0 ∧ N = 0 ∧ f = 0) ∨
  (0 < n ∧ 0 < N ∧ (∀ i, i + 1 < N → (L i : Int) = chunkS size) ∧ 1 ≤ L (N - 1) ∧ (L (N - 1) : Int) ≤ chunkS size ∧ 0 ≤ f ∧ f < (L 0 : Int) ∧ n = (sumL L N : Int) - f)
theorem sumL_mono (L : Nat → Nat) (k N : Nat) (h : k ≤ N) : sumL L k ≤ sumL L N := by
  induction N with
  | zero => obtain rfl : k = 0 := by omega
            exact Nat.le_refl _
  | succ N ih =>
    by_cases e : k = N + 1
    · subst e; exact Nat.le_refl _
    · have := ih (by omega)
      simp only [sumL]
      omega
end Go.Proofs.Qxb6603979a
