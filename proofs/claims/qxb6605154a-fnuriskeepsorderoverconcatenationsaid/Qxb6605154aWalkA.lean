/-
  THE WALKS: zzBytes, regURIsBytes.
-/
import Derived.Test.Qxb6605154aRows
import Derived.WalkKit
import Derived.ProofKit
import Derived.WalkLawsBesides
import Derived.WalkSpells
import Derived.Below
import Derived.Deep.QuietTactic
import Derived.BigQuiet
import Derived.RegionTactic
import Derived.BigRegion
import Derived.Deep.OwnRows
namespace Go.Proofs.Qxb6605154a
open Go.ChangeShapes Go.WideShapes Go.ChangeAt Go.RowKit

/-- The call answers a bool; if it says yes, P holds. -/
def SaysIf (e : Ending) (P : Prop) : Prop := ∃ ok, e = .returned (.bool ok) ∧ (ok = true → P)
theorem SaysIf.no {P : Prop} : SaysIf (.returned (.bool false)) P := ⟨false, rfl, fun h => by cases h⟩
theorem SaysIf.yes {P : Prop} (h : P) : SaysIf (.returned (.bool true)) P := ⟨true, rfl, fun _ => h⟩
theorem dr2 (w : World) (q n : Nat) : ∃ x, (w.drewN q).drewN n = w.drewN x := ⟨q + n, World.drewN_drewN w q n⟩

/-- A slice of pairs of strings. -/
def PairsAt (w : World) (a : Option Addr) (N : Nat) (I U : Nat → ByteArray) : Prop :=
  N = 0 ∨ ∃ b off, a = some ⟨b, off, none⟩ ∧ ∀ r, r < N → w.cell? ⟨b, off + r * 2, none⟩ = some (.string (I r)) ∧ w.cell? ⟨b, off + r * 2 + 1, none⟩ = some (.string (U r))
theorem PairsAt.pos {w : World} {a : Option Addr} {N : Nat} {I U : Nat → ByteArray} (h : PairsAt w a N I U) (h0 : 0 < N) :
    ∃ b off, a = some ⟨b, off, none⟩ ∧ ∀ r, r < N → w.cell? ⟨b, off + r * 2, none⟩ = some (.string (I r)) ∧ w.cell? ⟨b, off + r * 2 + 1, none⟩ = some (.string (U r)) := by
  rcases h with h | h
  · omega
  · exact h
theorem PairsAt.later {w w' : World} {a : Option Addr} {N : Nat} {I U : Nat → ByteArray} (h : PairsAt w a N I U) (hb : Below w.heap.size w w') : PairsAt w' a N I U := by
  rcases h with h | ⟨b, off, ha, hz⟩
  · exact .inl h
  · exact .inr ⟨b, off, ha, fun r hr => ⟨cell_later hb (hz r hr).1, cell_later hb (hz r hr).2⟩⟩
theorem PairsAt.drewN {w : World} {a : Option Addr} {N : Nat} {I U : Nat → ByteArray} (h : PairsAt w a N I U) (q : Nat) : PairsAt (w.drewN q) a N I U := h.later (below_drewN (Below.refl _ _) q)
/-- Each string fits. -/
def Short (N : Nat) (I U : Nat → ByteArray) : Prop := ∀ r, r < N → (I r).size ≤ maxLen ∧ (U r).size ≤ maxLen

set_option maxHeartbeats 400000 in
theorem bytes7 (a : Option Addr) (N cap : Nat) (I U : Nat → ByteArray) (w : World) (hN : N ≤ maxLen) (hS : Short N I U) (g : PairsAt w a N I U) :
    Calls Try.prog 7 #[.slice a N cap] w fun e w' => SaysIf e True ∧ w' = w := by
  unfold maxLen at hN
  have HS : Hid (Short N I U) := hS
  clear hS
  by_cases hb : N ≤ 1048576
  · by_cases h0 : N = 0
    · subst h0
      go_enter Try.func7, Try.ntmps7
      go_wp2
      go_loop [4] (fun i => i = .int .i64 0) (fun _ => 0)
      case atStart => rfl
      case round =>
        subst hrel
        go_wp2
        go_ret
        exact ⟨SaysIf.yes trivial, rfl⟩
    · obtain ⟨b, off, rfl, hz⟩ := g.pos (by omega)
      clear g
      go_enter Try.func7, Try.ntmps7
      go_wp2
      go_loop [3, 4] (fun s i => ∃ (k : Nat) (t : Int), i = .int .i64 (k : Int) ∧ k ≤ N ∧ s = .int .i64 t ∧ 0 ≤ t ∧ t ≤ 1048576) (fun _ i => N - (intOf i).toNat)
      case atStart => exact ⟨0, (N : Int), rfl, by omega, rfl, by omega, by omega⟩
      case round =>
        obtain ⟨k, t, rfl, hk, rfl, ht0, ht1⟩ := hrel
        by_cases hlt : k < N
        · obtain ⟨c1, c2⟩ := hz k hlt
          obtain ⟨s1, s2⟩ := HS.out k hlt
          unfold maxLen at s1 s2
          clear hz
          by_cases hl1 : (I k).size ≤ 1048576
          · by_cases hl2 : t + ((I k).size : Int) ≤ 1048576
            · by_cases hl3 : (U k).size ≤ 1048576
              · by_cases hl4 : t + ((I k).size : Int) + ((U k).size : Int) ≤ 1048576
                · go_wp2
                  go_round
                  case rel => exact ⟨k + 1, t + ((I k).size : Int) + ((U k).size : Int), by go_num, by omega, rfl, by omega, hl4⟩
                  case measure => simp [intOf]; omega
                · go_wp2
                  go_ret
                  exact ⟨SaysIf.no, rfl⟩
              · go_wp2
                go_ret
                exact ⟨SaysIf.no, rfl⟩
            · go_wp2
              go_ret
              exact ⟨SaysIf.no, rfl⟩
          · go_wp2
            go_ret
            exact ⟨SaysIf.no, rfl⟩
        · go_wp2
          go_ret
          exact ⟨SaysIf.yes trivial, rfl⟩
  · go_enter Try.func7, Try.ntmps7
    go_wp2
    go_ret
    exact ⟨SaysIf.no, rfl⟩

/-- regURIsBytes answers a number between 0 and limit + 1. -/
def Counts (e : Ending) : Prop := ∃ t : Int, e = .returned (.int .i64 t) ∧ 0 ≤ t ∧ t ≤ 1048577
theorem Counts.mk {t : Int} (h0 : 0 ≤ t) (h1 : t ≤ 1048577) : Counts (.returned (.int .i64 t)) := ⟨t, rfl, h0, h1⟩

set_option maxHeartbeats 1000000 in
theorem count8 (a : Option Addr) (N cap : Nat) (I U : Nat → ByteArray) (w : World) (hN : N ≤ 32768) (hS : Short N I U) (g : PairsAt w a N I U) :
    Calls Try.prog 8 #[.slice a N cap, .int .i64 1048576] w fun e w' => Counts e ∧ ∃ q, w' = w.drewN q := by
  have HS : Hid (Short N I U) := hS
  clear hS
  by_cases h0 : N = 0
  · subst h0
    go_enter Try.func8, Try.ntmps8
    go_wp2
    go_loop [5, 6] (fun s i => s = .int .i64 0 ∧ i = .int .i64 0) (fun _ _ => 0)
    case atStart => exact ⟨rfl, rfl⟩
    case round =>
      obtain ⟨rfl, rfl⟩ := hrel
      go_wp2
      go_ret
      exact ⟨Counts.mk (by omega) (by omega), 0, rfl⟩
  · obtain ⟨b, off, rfl, hz⟩ := g.pos (by omega)
    clear g
    go_enter Try.func8, Try.ntmps8
    go_wp2
    go_loopw [5, 6] (fun s i wr => ∃ (k : Nat) (t : Int), i = .int .i64 (k : Int) ∧ k ≤ N ∧ s = .int .i64 t ∧ 0 ≤ t ∧ t ≤ 1048576 ∧ ∃ q, wr = w.drewN q) (fun _ i _ => N - (intOf i).toNat)
    case atStart => exact ⟨0, 0, rfl, by omega, rfl, by omega, by omega, 0, rfl⟩
    case round =>
      obtain ⟨k, t, rfl, hk, rfl, ht0, ht1, q, rfl⟩ := hrel
      by_cases hlt : k < N
      · obtain ⟨c1, c2⟩ := hz k hlt
        obtain ⟨s1, s2⟩ := HS.out k hlt
        unfold maxLen at s1 s2
        have hki : (k : Int) < (N : Int) := by omega
        clear hz
        by_cases hl1 : (I k).size ≤ 1048576
        · by_cases hl2 : (U k).size ≤ 1048576
          · by_cases hl3 : t + (32 + ((I k).size : Int) + ((U k).size : Int)) ≤ 1048576
            · go_wp2
              go_quiet (fail)
              go_wp2
              go_roundw
              case rel => exact ⟨k + 1, t + (32 + ((I k).size : Int) + ((U k).size : Int)), by go_num, by omega, by go_num, by omega, hl3, by first | exact ⟨_, rfl⟩ | exact dr2 _ _ _⟩
              case measure => simp [intOf]; omega
            · go_wp2
              go_quiet (fail)
              go_wp2
              go_ret
              exact ⟨Counts.mk (by omega) (by omega), by first | exact ⟨_, rfl⟩ | exact dr2 _ _ _⟩
          · go_wp2
            go_ret
            exact ⟨Counts.mk (by omega) (by omega), _, rfl⟩
        · go_wp2
          go_ret
          exact ⟨Counts.mk (by omega) (by omega), _, rfl⟩
      · go_wp2
        go_ret
        exact ⟨Counts.mk (by omega) (by omega), _, rfl⟩
end Go.Proofs.Qxb6605154a
