/-
  THE WALKS of the functions that the firstAbove laws come to.
-/
import Derived.Test.Qxb6603979aRows
import Derived.Test.Qxb6603979aTree
import Derived.WalkKit
import Derived.ProofKit
import Derived.WalkLawsBesides
import Derived.WalkSpells
import Derived.Below
namespace Go.Proofs.Qxb6603979a
open Go.ChangeShapes Go.WideShapes Go.ChangeAt Go.RowKit

/-- (*revisionTree).width -/
theorem width_any (pb : Nat) (a : Option Addr) (len cap : Nat) (w : World) (hl : len ≤ maxLen) (hc : w.cell? ⟨pb, 0, none⟩ = some (.slice a len cap)) :
    Calls Try.prog 39 #[.pointer (some ⟨pb, 0, none⟩)] w fun e w' => e = .returned (.int .i64 ((len / 2 : Nat) : Int)) ∧ w' = w := by
  unfold maxLen at hl
  go_enter Try.func39, Try.ntmps39
  go_wp2
  go_ret
  exact ⟨by simp, rfl⟩

/-- firstAbove, the place outside the row: -1. -/
theorem fa_out (pb : Nat) (a : Option Addr) (len cap : Nat) (n f r : Int) (w : World) (_hc0 : w.cell? ⟨pb, 0, none⟩ = some (.slice a len cap)) (hc1 : w.cell? ⟨pb, 1, none⟩ = some (.int .i64 n)) (ho : f < 0 ∨ n ≤ f) :
    Calls Try.prog 32 #[.pointer (some ⟨pb, 0, none⟩), .int .i64 f, .int .i64 r] w fun e w' => e = .returned (.int .i64 (-1)) ∧ w' = w := by
  by_cases h : f < 0
  · go_enter Try.func32, Try.ntmps32
    go_wp2
    go_ret
    exact ⟨rfl, rfl⟩
  · have h2 : n ≤ f := by omega
    go_enter Try.func32, Try.ntmps32
    go_wp2
    go_ret
    exact ⟨rfl, rfl⟩

set_option maxHeartbeats 400000 in
/-- firstAbove, the place inside the row. -/
theorem fa_in (pb b off W cap h f : Nat) (n r : Int) (zs : List Int) (w : World) (HW : Hid (W = 2 ^ h)) (hW : W ≤ 65536)
    (hc0 : w.cell? ⟨pb, 0, none⟩ = some (.slice (some ⟨b, off, none⟩) (2 * W) cap)) (hc1 : w.cell? ⟨pb, 1, none⟩ = some (.int .i64 n))
    (hz : ∀ j, j < 2 * W → w.cell? ⟨b, off + j, none⟩ = some (.int .i64 (zs.getD j 0))) (hf : (f : Int) < n) (hn : n ≤ W) (s : Tree.Shape (fun j => zs.getD j 0) h) :
    Calls Try.prog 32 #[.pointer (some ⟨pb, 0, none⟩), .int .i64 f, .int .i64 r] w fun e w' => (∃ a, e = .returned (.int .i64 a) ∧ Tree.Found (fun j => zs.getD j 0) W f r a) ∧ w' = w := by
  have hfW : f < W := by omega
  go_enter Try.func32, Try.ntmps32
  go_wp2
  go_loop [7] (fun j => ∃ jn : Nat, j = .int .i64 (jn : Int) ∧ Tree.P1 (fun j => zs.getD j 0) h f r jn) (fun j => 2 * W - Tree.start h (intOf j).toNat)
  case atStart => exact ⟨W + f, by simp, by rw [HW.out]; exact Tree.p1_init _ _ _ _ (by rw [← HW.out]; exact hfW)⟩
  case round =>
    obtain ⟨jn, rfl, hp⟩ := hrel
    have hb := Tree.p1_bound hp
    rw [← HW.out] at hb
    obtain ⟨hj1, hj2, hj3⟩ := hb
    have hcell := hz jn hj2
    by_cases ht : zs[jn]?.getD 0 ≤ r
    · have hq := Tree.p1_p2 s hp (by simpa using ht)
      go_wp2
      go_loop [7] (fun j => ∃ k : Nat, j = .int .i64 (k : Int) ∧ Tree.P2 (fun j => zs.getD j 0) h f r (Tree.start h jn) k) (fun j => (intOf j).toNat)
      case atStart => exact ⟨jn, rfl, hq⟩
      case round =>
        obtain ⟨k, rfl, hk⟩ := hrel
        have hkb := Tree.p2_bound hk
        rw [← HW.out] at hkb
        have hand := Tree.i64_and_one k (by omega)
        by_cases ho : k % 2 = 1
        · rw [ho] at hand
          go_wp2
          go_round
          case rel => exact ⟨k / 2, by simp, Tree.p2_up hk ho⟩
          case measure => simp [intOf]; omega
        · have hev : k % 2 = 0 := by omega
          rw [hev] at hand
          by_cases h0 : k = 0
          · subst h0
            have hall := Tree.p2_zero hk
            go_wp2
            go_ret
            exact ⟨⟨-1, rfl, .inl ⟨rfl, by rw [HW.out]; exact hall⟩⟩, rfl⟩
          · have hnx := Tree.p2_next hk hev h0
            have h0' : ((k : Int) == 0) = false := by simp; omega
            go_wp2
            go_round
            case rel => exact ⟨k + 1, by go_num, hnx.1⟩
            case measure =>
              have hb2 := Tree.p1_bound hnx.1
              rw [← HW.out] at hb2
              simp [intOf]
              omega
    · go_wp2
      go_loop [7] (fun j => ∃ k : Nat, j = .int .i64 (k : Int) ∧ Tree.P1 (fun j => zs.getD j 0) h f r k ∧ r < zs.getD k 0) (fun j => W - (intOf j).toNat)
      case atStart => exact ⟨jn, rfl, hp, by simp; omega⟩
      case round =>
        obtain ⟨k, rfl, hk, hkr⟩ := hrel
        have hb := Tree.p1_bound hk
        rw [← HW.out] at hb
        obtain ⟨hk1, hk2, hk3⟩ := hb
        by_cases hlt : k < W
        · have hcell2 := hz (k * 2) (by omega)
          by_cases ht2 : zs[k * 2]?.getD 0 ≤ r
          · have hlt2 : k < 2 ^ h := by rw [← HW.out]; exact hlt
            have e2 : k * 2 = 2 * k := Nat.mul_comm _ _
            have HR := Tree.p3_right s hk hlt2 (by rw [← e2]; simpa using ht2)
            have hm := s.inner k hk1 hlt2
            have HT : r < zs.getD (2 * k + 1) 0 := by
              simp only [List.getD_eq_getElem?_getD] at hm hkr ⊢
              rw [e2] at ht2
              omega
            clear hm e2
            go_wp2
            go_round
            case rel => exact ⟨2 * k + 1, by go_num, HR, HT⟩
            case measure => simp [intOf]; omega
          · have hlt2 : k < 2 ^ h := by rw [← HW.out]; exact hlt
            have HL := Tree.p3_left hk hlt2
            have HT : r < zs.getD (2 * k) 0 := by
              rw [Nat.mul_comm 2 k]; simp; omega
            go_wp2
            go_round
            case rel => exact ⟨2 * k, by go_num, HL, HT⟩
            case measure => simp [intOf]; omega
        · have HD := Tree.p3_done hk hkr (by rw [← HW.out]; omega)
          rw [← HW.out] at HD
          go_wp2
          go_ret
          exact ⟨⟨_, rfl, HD⟩, rfl⟩
end Go.Proofs.Qxb6603979a
