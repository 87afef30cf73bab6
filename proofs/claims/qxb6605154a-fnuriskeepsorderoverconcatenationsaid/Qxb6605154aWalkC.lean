/-
  THE WALKS of the second law: zzBytes; the joined list, made and filled.
-/
import Derived.Test.Qxb6605154aLawA
import Derived.Deep.RegionLaw
namespace Go.Proofs.Qxb6605154a
open Go.ChangeShapes Go.WideShapes Go.ChangeAt Go.RowKit

set_option maxHeartbeats 1000000 in
theorem bytes11 (a b : Option Addr) (N M cap cap' : Nat) (I U J V : Nat → ByteArray) (w : World) (hN : N ≤ maxLen) (hM : M ≤ maxLen) (hS : Short N I U) (hS' : Short M J V) (g : PairsAt w a N I U) (g' : PairsAt w b M J V) :
    Calls Try.prog 11 #[.slice a N cap, .slice b M cap'] w fun e w' => SaysIf e True ∧ w' = w := by
  unfold maxLen at hN hM
  have HS : Hid (Short N I U) := hS
  have HS' : Hid (Short M J V) := hS'
  clear hS hS'
  by_cases hb : N ≤ 1048576
  · go_enter Try.func11, Try.ntmps11
    go_wp2
    go_loop [5, 6] (fun s i => ∃ (k : Nat) (t : Int), i = .int .i64 (k : Int) ∧ k ≤ N ∧ s = .int .i64 t ∧ 0 ≤ t ∧ t ≤ 1048576) (fun _ i => N - (intOf i).toNat)
    case atStart => exact ⟨0, (N : Int), rfl, by omega, rfl, by omega, by omega⟩
    case round =>
      obtain ⟨k, t, rfl, hk, rfl, ht0, ht1⟩ := hrel
      by_cases hlt : k < N
      · obtain ⟨ba, off, rfl, hz⟩ := g.pos (by omega)
        obtain ⟨c1, c2⟩ := hz k hlt
        obtain ⟨s1, s2⟩ := HS.out k hlt
        unfold maxLen at s1 s2
        clear hz
        by_cases hl1 : (I k).size ≤ 1048576
        · by_cases hl2 : t + ((I k).size : Int) ≤ 1048576
          · by_cases hl3 : (U k).size ≤ 1048576
            · by_cases hl4 : t + ((I k).size : Int) + ((U k).size : Int) ≤ 1048576
              · go_wp2
                go_round
                case rel => exact ⟨k + 1, t + ((I k).size : Int) + ((U k).size : Int), by go_num, by omega, rfl, by omega, hl4⟩
                case measure => simp [intOf]; omega
              · go_wp2
                go_ret
                exact ⟨SaysIf.no, rfl⟩
            · go_wp2
              go_ret
              exact ⟨SaysIf.no, rfl⟩
          · go_wp2
            go_ret
            exact ⟨SaysIf.no, rfl⟩
        · go_wp2
          go_ret
          exact ⟨SaysIf.no, rfl⟩
      · by_cases hM1 : M ≤ 1048576
        · by_cases hM2 : t + (M : Int) ≤ 1048576
          · go_wp2
            go_loop [5, 7] (fun s i => ∃ (k : Nat) (t : Int), i = .int .i64 (k : Int) ∧ k ≤ M ∧ s = .int .i64 t ∧ 0 ≤ t ∧ t ≤ 1048576) (fun _ i => M - (intOf i).toNat)
            case atStart => exact ⟨0, t + (M : Int), rfl, by omega, rfl, by omega, by omega⟩
            case round =>
              clear ht0 ht1 hM2
              obtain ⟨k, t, rfl, hk, rfl, ht0, ht1⟩ := hrel
              by_cases hlt : k < M
              · obtain ⟨ba, off, rfl, hz⟩ := g'.pos (by omega)
                obtain ⟨c1, c2⟩ := hz k hlt
                obtain ⟨s1, s2⟩ := HS'.out k hlt
                unfold maxLen at s1 s2
                clear hz
                by_cases hl1 : (J k).size ≤ 1048576
                · by_cases hl2 : t + ((J k).size : Int) ≤ 1048576
                  · by_cases hl3 : (V k).size ≤ 1048576
                    · by_cases hl4 : t + ((J k).size : Int) + ((V k).size : Int) ≤ 1048576
                      · go_wp2
                        go_round
                        case rel => exact ⟨k + 1, t + ((J k).size : Int) + ((V k).size : Int), by go_num, by omega, rfl, by omega, hl4⟩
                        case measure => simp [intOf]; omega
                      · go_wp2
                        go_ret
                        exact ⟨SaysIf.no, rfl⟩
                    · go_wp2
                      go_ret
                      exact ⟨SaysIf.no, rfl⟩
                  · go_wp2
                    go_ret
                    exact ⟨SaysIf.no, rfl⟩
                · go_wp2
                  go_ret
                  exact ⟨SaysIf.no, rfl⟩
              · go_wp2
                go_ret
                exact ⟨SaysIf.yes trivial, rfl⟩
          · go_wp2
            go_ret
            exact ⟨SaysIf.no, rfl⟩
        · go_wp2
          go_ret
          exact ⟨SaysIf.no, rfl⟩
  · go_enter Try.func11, Try.ntmps11
    go_wp2
    go_ret
    exact ⟨SaysIf.no, rfl⟩

theorem run_make33' (n m : Nat) (hn : n + m ≤ 32768) (w : World) :
    (Instr.makeSlice 26 (.int .i64 0) (.int .i64 ((n : Int) + (m : Int)))).run Try.prog w = .ok (.slice (some ⟨w.heap.size, 0, none⟩) 0 (n + m)) (w.alloc (.cells (madeCells #[.string ⟨#[]⟩, .string ⟨#[]⟩] ((n + m) * 2)) 33)) := by
  obtain ⟨i, hi, hz, hs, hb⟩ := info_parts Try.info33
  have hr := run_make (P := Try.prog) w 26 33 i _ Try.underlying26 hi hz .i64 .i64 0 ((n : Int) + (m : Int)) (by omega) (by omega) (by rw [hb]; omega) (by omega)
  have e : ((n : Int) + (m : Int)).toNat = n + m := by omega
  simp only [e, hs, Int.toNat_zero] at hr
  exact hr
theorem setCells_two (w : World) (g o : Nat) (x y : Value) : w.setCells g o [x, y] = (w.setCell ⟨g, o, none⟩ x).setCell ⟨g, o + 1, none⟩ y := by
  simp [World.setCells]
end Go.Proofs.Qxb6605154a
