/-
  THE WALKS of dropFirst's law: the guards and the lengths.
-/
import Derived.Test.Qxb6603979aWalkB
import Derived.Deep.OwnRows
namespace Go.Proofs.Qxb6603979a
open Go.ChangeShapes Go.WideShapes Go.ChangeAt Go.RowKit

/-- A slice of slices: its N cells hold slices of L r elements. -/
def GridAt (w : World) (a : Option Addr) (N : Nat) (A : Nat → Option Addr) (L C : Nat → Nat) : Prop :=
  N = 0 ∨ ∃ b off, a = some ⟨b, off, none⟩ ∧ ∀ r, r < N → w.cell? ⟨b, off + r, none⟩ = some (.slice (A r) (L r) (C r))
theorem GridAt.pos {w : World} {a : Option Addr} {N : Nat} {A : Nat → Option Addr} {L C : Nat → Nat} (h : GridAt w a N A L C) (h0 : 0 < N) :
    ∃ b off, a = some ⟨b, off, none⟩ ∧ ∀ r, r < N → w.cell? ⟨b, off + r, none⟩ = some (.slice (A r) (L r) (C r)) := by
  rcases h with h | h
  · omega
  · exact h
theorem GridAt.later {w w' : World} {a : Option Addr} {N : Nat} {A : Nat → Option Addr} {L C : Nat → Nat} (h : GridAt w a N A L C) (hb : Below w.heap.size w w') : GridAt w' a N A L C := by
  rcases h with h | ⟨b, off, ha, hz⟩
  · exact .inl h
  · exact .inr ⟨b, off, ha, fun j hj => cell_later hb (hz j hj)⟩
def sumL (L : Nat → Nat) : Nat → Nat
  | 0 => 0
  | n + 1 => sumL L n + L n

set_option maxHeartbeats 400000 in
theorem bytes20 (a : Option Addr) (N cap : Nat) (A : Nat → Option Addr) (L C : Nat → Nat) (x y z : Int) (w : World) (hN : N ≤ maxLen) (hL : ∀ r, r < N → L r ≤ maxLen) (g : GridAt w a N A L C) :
    Calls Try.prog 20 #[.slice a N cap, .int .i64 x, .int .i64 y, .int .i64 z] w fun e w' => SaysIf e True ∧ w' = w := by
  unfold maxLen at hN
  by_cases hb : N ≤ 1048576
  · by_cases h0 : N = 0
    · subst h0
      go_enter Try.func20, Try.ntmps20
      go_wp2
      go_loop [10] (fun i => i = .int .i64 0) (fun _ => 0)
      case atStart => rfl
      case round =>
        subst hrel
        go_wp2
        go_ret
        exact ⟨SaysIf.yes trivial, rfl⟩
    · obtain ⟨b, off, rfl, hz⟩ := g.pos (by omega)
      clear g
      go_enter Try.func20, Try.ntmps20
      go_wp2
      go_loop [9, 10] (fun s i => ∃ (k : Nat) (t : Int), i = .int .i64 (k : Int) ∧ k ≤ N ∧ s = .int .i64 t ∧ 0 ≤ t ∧ t ≤ 1048576) (fun _ i => N - (intOf i).toNat)
      case atStart => exact ⟨0, (N : Int), rfl, by omega, rfl, by omega, by omega⟩
      case round =>
        obtain ⟨k, t, rfl, hk, rfl, ht0, ht1⟩ := hrel
        by_cases hlt : k < N
        · have hc := hz k hlt
          have hLk := hL k hlt
          unfold maxLen at hLk
          by_cases hl1 : L k ≤ 1048576
          · by_cases hl2 : t + (L k : Int) ≤ 1048576
            · go_wp2
              go_round
              case rel => exact ⟨k + 1, t + (L k : Int), by go_num, by omega, rfl, by omega, hl2⟩
              case measure => simp [intOf]; omega
            · go_wp2
              go_ret
              exact ⟨SaysIf.no, rfl⟩
          · go_wp2
            go_ret
            exact ⟨SaysIf.no, rfl⟩
        · go_wp2
          go_ret
          exact ⟨SaysIf.yes trivial, rfl⟩
  · go_enter Try.func20, Try.ntmps20
    go_wp2
    go_ret
    exact ⟨SaysIf.no, rfl⟩

/-- WHAT zzChunkBytesFit SAYS YES TO, as far as it is needed. -/
def Fits (N : Nat) (L : Nat → Nat) : Prop := N ≤ 65536 ∧ (∀ r, r < N → L r ≤ 131072) ∧ sumL L N ≤ 131072

set_option maxHeartbeats 400000 in
theorem fits_any (a : Option Addr) (N cap : Nat) (A : Nat → Option Addr) (L C : Nat → Nat) (w : World) (hN : N ≤ maxLen) (hL : ∀ r, r < N → L r ≤ maxLen) (g : GridAt w a N A L C) :
    Calls Try.prog 21 #[.slice a N cap] w fun e w' => SaysIf e (Fits N L) ∧ w' = w := by
  unfold maxLen at hN
  by_cases hb : N ≤ 65536
  · by_cases h0 : N = 0
    · subst h0
      have HF : Hid (Fits 0 L) := ⟨by omega, fun r hr => by omega, Nat.zero_le _⟩
      go_enter Try.func21, Try.ntmps21
      go_wp2
      go_loop [4] (fun i => i = .int .i64 0) (fun _ => 0)
      case atStart => rfl
      case round =>
        subst hrel
        go_wp2
        go_ret
        exact ⟨SaysIf.yes HF.out, rfl⟩
    · obtain ⟨b, off, rfl, hz⟩ := g.pos (by omega)
      clear g
      go_enter Try.func21, Try.ntmps21
      go_wp2
      go_loop [3, 4] (fun s i => ∃ k t : Nat, i = .int .i64 (k : Int) ∧ k ≤ N ∧ s = .int .i64 (t : Int) ∧ (k = 0 ∨ t ≤ 1048576) ∧ t ≤ 1572864 ∧ Hid (t = 24 * N + 8 * sumL L k) ∧ Hid (∀ r, r < k → L r ≤ 131072)) (fun _ i => N - (intOf i).toNat)
      case atStart => exact ⟨0, 24 * N, rfl, by omega, by go_num, .inl rfl, by omega, rfl, fun r hr => by omega⟩
      case round =>
        obtain ⟨k, t, rfl, hk, rfl, ht0, ht1, HT, HL⟩ := hrel
        by_cases hlt : k < N
        · have hc := hz k hlt
          have hLk := hL k hlt
          unfold maxLen at hLk
          clear ht0
          by_cases hl1 : L k ≤ 131072
          · have HL2 : Hid (∀ r, r < k + 1 → L r ≤ 131072) := fun r hr => by
              by_cases hrk : r < k
              · exact HL.out r hrk
              · obtain rfl : r = k := by omega
                exact hl1
            have HT2 : Hid (t + 8 * L k = 24 * N + 8 * sumL L (k + 1)) := by
              have := HT.out
              show _ = _
              simp only [sumL]
              omega
            clear HL HT
            by_cases hl2 : t + 8 * L k ≤ 1048576
            · go_wp2
              go_round
              case rel => exact ⟨k + 1, t + 8 * L k, by go_num, by omega, by go_num, .inr hl2, by omega, HT2, HL2⟩
              case measure => simp [intOf]; omega
            · go_wp2
              go_ret
              exact ⟨SaysIf.no, rfl⟩
          · go_wp2
            go_ret
            exact ⟨SaysIf.no, rfl⟩
        · have HF : Hid (Fits N L) := by
            have e : k = N := by omega
            have h1 := HT.out
            have h2 := HL.out
            rw [e] at h1 h2 ht0
            exact ⟨hb, h2, by omega⟩
          clear HL HT ht0
          go_wp2
          go_ret
          exact ⟨SaysIf.yes HF.out, rfl⟩
  · go_enter Try.func21, Try.ntmps21
    go_wp2
    go_ret
    exact ⟨SaysIf.no, rfl⟩
end Go.Proofs.Qxb6603979a
