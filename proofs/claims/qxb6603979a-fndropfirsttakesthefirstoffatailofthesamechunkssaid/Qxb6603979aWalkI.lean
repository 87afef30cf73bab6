/-
  THE WALK of zzShapeOK.
-/
import Derived.Test.Qxb6603979aWalkH
import Derived.Test.Qxb6603979aWalkD
namespace Go.Proofs.Qxb6603979a
open Go.ChangeShapes Go.WideShapes Go.ChangeAt Go.RowKit

/-- Chunk i is as long as it must be. -/
def OkAt (N : Nat) (L : Nat → Nat) (s : Int) (i : Nat) : Prop := (i + 1 < N → (L i : Int) = s) ∧ (i + 1 = N → 1 ≤ (L i : Int) ∧ (L i : Int) ≤ s)
theorem shaped_of {N : Nat} {L : Nat → Nat} {f n size s : Int} (hs : chunkS size = s) (h0 : 0 < n) (hN : 0 < N) (hall : ∀ i, i < N → OkAt N L s i) (hf0 : 0 ≤ f) (hf1 : f < (L 0 : Int)) (hn : n = (sumL L N : Int) - f) : Shaped N L f n size := by
  have hl := (hall (N - 1) (by omega)).2 (by omega)
  exact .inr ⟨h0, hN, fun i hi => by rw [hs]; exact (hall i (by omega)).1 hi, by omega, by rw [hs]; exact hl.2, hf0, hf1, hn⟩
theorem ok_of {N : Nat} {L : Nat → Nat} {f n size s : Int} (hs : chunkS size = s) (h0 : n ≠ 0) (h : Shaped N L f n size) (i : Nat) (hi : i < N) : OkAt N L s i := by
  rcases h with h | ⟨_, _, h1, h2, h3, _⟩
  · exact absurd h.1 h0
  · rw [hs] at h1 h3
    refine ⟨h1 i, fun e => ?_⟩
    obtain rfl : i = N - 1 := by omega
    exact ⟨by omega, h3⟩

set_option maxHeartbeats 1000000 in
theorem shape_any (g N : Nat) (L : Nat → Nat) (f n size : Int) (w : World) (hN : N ≤ 65536) (hL : ∀ r, r < N → L r ≤ 131072) (hS : sumL L N ≤ 131072) (hc : ∀ r, r < N → w.cell? ⟨g, r, none⟩ = some (.int .i64 (L r : Int))) :
    Calls Try.prog 22 #[.slice (some ⟨g, 0, none⟩) N N, .int .i64 f, .int .i64 n, .int .i64 size] w fun e w' => SaysIff e (Shaped N L f n size) ∧ w' = w := by
  obtain ⟨s, hs⟩ : ∃ s, Hid (chunkS size = s) := ⟨_, rfl⟩
  have k35 := size35 size
  rw [hs.out] at k35
  have K35 : Hid (∀ w : World, Calls Try.prog 35 #[.int .i64 size] w fun e w' => e = .returned (.int .i64 s) ∧ w' = w) := k35
  clear k35
  by_cases hn0 : n = 0
  · subst hn0
    by_cases hN0 : N = 0
    · subst hN0
      by_cases hf : f = 0
      · subst hf
        have HY : Hid (Shaped 0 L 0 0 size) := .inl ⟨rfl, rfl, rfl⟩
        go_enter Try.func22, Try.ntmps22
        go_wp2_with (go_at_call 35; refine (K35.out _).mono ?_; rintro e w1 ⟨rfl, hw⟩; obtain rfl := hw.symm)
        go_ret
        exact ⟨SaysIff.yes HY.out, rfl⟩
      · have hf' : (f == 0) = false := by simpa using hf
        have HN : Hid (¬ Shaped 0 L f 0 size) := by
          rintro (h | h)
          · exact hf h.2.2
          · omega
        go_enter Try.func22, Try.ntmps22
        go_wp2_with (go_at_call 35; refine (K35.out _).mono ?_; rintro e w1 ⟨rfl, hw⟩; obtain rfl := hw.symm)
        go_ret
        exact ⟨SaysIff.no HN.out, rfl⟩
    · have HN : Hid (¬ Shaped N L f 0 size) := by
        rintro (h | h)
        · exact hN0 h.2.1
        · omega
      have hN' : ((N : Int) == 0) = false := by simp; omega
      go_enter Try.func22, Try.ntmps22
      go_wp2_with (go_at_call 35; refine (K35.out _).mono ?_; rintro e w1 ⟨rfl, hw⟩; obtain rfl := hw.symm)
      go_ret
      exact ⟨SaysIff.no HN.out, rfl⟩
  have hn0' : (n == 0) = false := by simpa using hn0
  by_cases hneg : n < 0
  · have HN : Hid (¬ Shaped N L f n size) := by
      rintro (h | h)
      · exact hn0 h.1
      · omega
    go_enter Try.func22, Try.ntmps22
    go_wp2_with (go_at_call 35; refine (K35.out _).mono ?_; rintro e w1 ⟨rfl, hw⟩; obtain rfl := hw.symm)
    go_ret
    exact ⟨SaysIff.no HN.out, rfl⟩
  by_cases hN0 : N = 0
  · subst hN0
    have HN : Hid (¬ Shaped 0 L f n size) := by
      rintro (h | h)
      · exact hn0 h.1
      · omega
    go_enter Try.func22, Try.ntmps22
    go_wp2_with (go_at_call 35; refine (K35.out _).mono ?_; rintro e w1 ⟨rfl, hw⟩; obtain rfl := hw.symm)
    go_ret
    exact ⟨SaysIff.no HN.out, rfl⟩
  have hN' : ((N : Int) == 0) = false := by simp; omega
  have HOK : Hid (∀ i, i < N → ¬ OkAt N L s i → ¬ Shaped N L f n size) := fun i hi h h' => h (ok_of hs.out hn0 h' i hi)
  go_enter Try.func22, Try.ntmps22
  go_wp2_with (go_at_call 35; refine (K35.out _).mono ?_; rintro e w1 ⟨rfl, hw⟩; obtain rfl := hw.symm)
  go_loop [11, 12] (fun t i => ∃ k : Nat, i = .int .i64 (k : Int) ∧ k ≤ N ∧ t = .int .i64 (sumL L k : Int) ∧ Hid (∀ i, i < k → OkAt N L s i)) (fun _ i => N - (intOf i).toNat)
  case atStart => exact ⟨0, rfl, Nat.zero_le _, rfl, fun i hi => by omega⟩
  case round =>
    obtain ⟨k, rfl, hk, rfl, HA⟩ := hrel
    by_cases hlt : k < N
    · have c1 := hc k hlt
      have hLk := hL k hlt
      have hsum := sumL_mono L (k + 1) N (by omega)
      have hse : Hid (sumL L (k + 1) = sumL L k + L k) := rfl
      have hsk : sumL L k + L k ≤ 131072 := by have := hse.out; omega
      clear hsum
      by_cases hlast : k + 1 < N
      · have t1 : (k : Int) < (N : Int) - 1 := by omega
        have t2 : ((k : Int) == (N : Int) - 1) = false := by simp; omega
        by_cases he : (L k : Int) = s
        · have HO : Hid (OkAt N L s k) := ⟨fun _ => he, fun h => by omega⟩
          have he' : ((L k : Int) != s) = false := by simpa using he
          have HA2 : Hid (∀ i, i < k + 1 → OkAt N L s i) := fun i hi => by
            by_cases h : i < k
            · exact HA.out i h
            · obtain rfl : i = k := by omega
              exact HO.out
          clear HA HO he HOK
          go_wp2
          go_round
          case rel => exact ⟨k + 1, by go_num, by omega, by rw [hse.out]; go_num, HA2⟩
          case measure => simp [intOf]; omega
        · have HN : Hid (¬ Shaped N L f n size) := HOK.out k hlt (fun h => he (h.1 hlast))
          have he' : ((L k : Int) != s) = true := by simpa using he
          clear HA HOK
          go_wp2
          go_ret
          exact ⟨SaysIff.no HN.out, rfl⟩
      · have t1 : ¬ (k : Int) < (N : Int) - 1 := by omega
        have t2 : ((k : Int) == (N : Int) - 1) = true := by simp; omega
        by_cases hlo : (L k : Int) < 1
        · have HN : Hid (¬ Shaped N L f n size) := HOK.out k hlt (fun h => by have := h.2 (by omega); omega)
          clear HA HOK
          go_wp2
          go_ret
          exact ⟨SaysIff.no HN.out, rfl⟩
        · by_cases hhi : s < (L k : Int)
          · have HN : Hid (¬ Shaped N L f n size) := HOK.out k hlt (fun h => by have := h.2 (by omega); omega)
            clear HA HOK
            go_wp2
            go_ret
            exact ⟨SaysIff.no HN.out, rfl⟩
          · have HO : Hid (OkAt N L s k) := ⟨fun h => by omega, fun _ => ⟨by omega, by omega⟩⟩
            have HA2 : Hid (∀ i, i < k + 1 → OkAt N L s i) := fun i hi => by
              by_cases h : i < k
              · exact HA.out i h
              · obtain rfl : i = k := by omega
                exact HO.out
            clear HA HO HOK
            go_wp2
            go_round
            case rel => exact ⟨k + 1, by go_num, by omega, by rw [hse.out]; go_num, HA2⟩
            case measure => simp [intOf]; omega
    · obtain rfl : k = N := by omega
      have c0 := hc 0 (by omega)
      have hL0 := hL 0 (by omega)
      have hNi : (0 : Int) < (k : Int) := by omega
      clear HOK hc hL
      by_cases hf0 : f < 0
      · have HN : Hid (¬ Shaped k L f n size) := by
          rintro (h | h)
          · exact hn0 h.1
          · omega
        go_wp2
        go_ret
        exact ⟨SaysIff.no HN.out, rfl⟩
      · by_cases hf1 : (L 0 : Int) ≤ f
        · have HN : Hid (¬ Shaped k L f n size) := by
            rintro (h | h)
            · exact hn0 h.1
            · omega
          go_wp2
          go_ret
          exact ⟨SaysIff.no HN.out, rfl⟩
        · by_cases hfin : n = (sumL L k : Int) - f
          · have HY : Hid (Shaped k L f n size) := shaped_of hs.out (by omega) (by omega) HA.out (by omega) (by omega) hfin
            have hfin' : (n == (sumL L k : Int) - f) = true := by simpa using hfin
            clear hfin
            go_wp2
            go_ret
            exact ⟨SaysIff.yes HY.out, rfl⟩
          · have HN : Hid (¬ Shaped k L f n size) := by
              rintro (h | h)
              · exact hn0 h.1
              · exact hfin h.2.2.2.2.2.2.2
            have hfin' : (n == (sumL L k : Int) - f) = false := by simpa using hfin
            go_wp2
            go_ret
            exact ⟨SaysIff.no HN.out, rfl⟩
end Go.Proofs.Qxb6603979a
