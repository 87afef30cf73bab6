/-
  THE WALKS of dropFirst's law: zzSameRevisionsAsChanges, zzSameSequence.
-/
import Derived.Test.Qxb6603979aWalkK
import Derived.Deep.RegionWith
import Derived.BigRegion
namespace Go.Proofs.Qxb6603979a
open Go.ChangeShapes Go.WideShapes Go.ChangeAt Go.RowKit

set_option maxHeartbeats 1000000 in
theorem revs26 (b o n C g : Nat) (zs : List Int) (w : World) (hn : n ≤ 131072) (hz : ∀ c, c < n → w.cell? ⟨b, o + c, none⟩ = some (.int .i64 (zs.getD c 0))) (hg : w.rowIs g 65 (n * 2) (chunkTo zs n)) :
    Calls Try.prog 26 #[.slice (some ⟨b, o, none⟩) n C, .slice (some ⟨g, 0, none⟩) n n] w fun e w' => e = .returned (.bool true) ∧ Below w.heap.size w w' := by
  go_enter Try.func26, Try.ntmps26
  go_wp2
  go_loopw [5] (fun i wr => ∃ k : Nat, i = .int .i64 (k : Int) ∧ k ≤ n ∧ Hid (Below w.heap.size w wr)) (fun i _ => n - (intOf i).toNat)
  case atStart => exact ⟨0, rfl, Nat.zero_le _, Below.refl _ _⟩
  case round =>
    obtain ⟨k, rfl, hk, HB⟩ := hrel
    by_cases hlt : k < n
    · have hki : (k : Int) < (n : Int) := by omega
      obtain ⟨z, hzz⟩ : ∃ z, Hid (zs.getD k 0 = z) := ⟨_, rfl⟩
      have c1 : wr.cell? ⟨b, o + k, none⟩ = some (.int .i64 z) := by rw [← hzz.out]; exact cell_later HB.out (hz k hlt)
      have c1' : ∀ ob, (wr.alloc ob).cell? ⟨b, o + k, none⟩ = some (.int .i64 z) := fun ob => cell_later ((Below.refl _ _).alloc (Nat.le_refl _) ob) c1
      have c2 : wr.cell? ⟨g, k * 2, none⟩ = some (.int .i64 z) := by
        have := cell_later HB.out (hg.cell (show k * 2 < n * 2 by omega))
        rw [chunkTo_even, if_pos hlt, hzz.out] at this; exact this
      have c3 : wr.cell? ⟨g, k * 2 + 1, none⟩ = some (.pointer none) := by
        have := cell_later HB.out (hg.cell (show k * 2 + 1 < n * 2 by omega))
        rw [chunkTo_odd] at this; exact this
      clear hz
      go_wp2
      go_region_with (go_at_call 38; refine (rev38 _ _ _).mono ?_; rintro e w1 ⟨rfl, rfl⟩)
      all_goals
        go_wp2
        go_roundw
        case rel => exact ⟨k + 1, by go_num, by omega, by first | exact (HB.out.alloc HB.out.size _).drew | exact HB.out.drew.alloc HB.out.size _⟩
        case measure => simp [intOf]; omega
    · go_wp2
      go_ret
      exact ⟨rfl, HB.out⟩
/-- Two rows of numbers, the same. -/
theorem seq31 (g1 o1 c1 g2 o2 c2 n : Nat) (zs : List Int) (w : World) (hn : n ≤ 131072) (h1 : ∀ c, c < n → w.cell? ⟨g1, o1 + c, none⟩ = some (.int .i64 (zs.getD c 0))) (h2 : ∀ c, c < n → w.cell? ⟨g2, o2 + c, none⟩ = some (.int .i64 (zs.getD c 0))) :
    Calls Try.prog 31 #[.slice (some ⟨g1, o1, none⟩) n c1, .slice (some ⟨g2, o2, none⟩) n c2] w fun e w' => e = .returned (.bool true) ∧ ∃ q, w' = w.drewN q := by
  go_enter Try.func31, Try.ntmps31
  go_wp2
  go_loopw [5] (fun i wr => ∃ k : Nat, i = .int .i64 (k : Int) ∧ k ≤ n ∧ ∃ q, wr = w.drewN q) (fun i _ => n - (intOf i).toNat)
  case atStart => exact ⟨0, rfl, Nat.zero_le _, 0, rfl⟩
  case round =>
    obtain ⟨k, rfl, hk, q, rfl⟩ := hrel
    by_cases hlt : k < n
    · have hki : (k : Int) < (n : Int) := by omega
      obtain ⟨z, hzz⟩ : ∃ z, Hid (zs.getD k 0 = z) := ⟨_, rfl⟩
      have d1 : w.cell? ⟨g1, o1 + k, none⟩ = some (.int .i64 z) := by rw [← hzz.out]; exact h1 k hlt
      have d2 : w.cell? ⟨g2, o2 + k, none⟩ = some (.int .i64 z) := by rw [← hzz.out]; exact h2 k hlt
      clear h1 h2
      go_wp2
      go_quiet (fail)
      go_wp2
      go_roundw
      case rel => exact ⟨k + 1, by go_num, by omega, by first | exact ⟨_, rfl⟩ | exact dr2 _ _ _⟩
      case measure => simp [intOf]; omega
    · go_wp2
      go_ret
      exact ⟨rfl, _, rfl⟩
end Go.Proofs.Qxb6603979a
