/-
  THE WALK of zzLiveChanges.
-/
import Derived.Test.Qxb6603979aWalkM
namespace Go.Proofs.Qxb6603979a
open Go.ChangeShapes Go.WideShapes Go.ChangeAt Go.RowKit

theorem one_new' (w : World) (o : Obj) (v : Value) (t : TypeId) : ∀ j u, ([v] : List Value)[j]? = some u → ((w.alloc o).alloc (.cells #[v] t)).cell? ((⟨w.heap.size + 1, 0, none⟩ : Addr).add j) = some u := by
  have := one_new (w.alloc o) v t
  rwa [show (w.alloc o).heap.size = w.heap.size + 1 by simp] at this

set_option maxHeartbeats 2000000 in
theorem live30 (b off N cap f : Nat) (gs L : Nat → Nat) (Z : Nat → List Int) (w : World) (hN0 : 0 < N) (hN : N ≤ 65536) (hL : ∀ r, r < N → L r ≤ 131072) (hS : sumL L N ≤ 131072) (hf : f ≤ L 0)
    (hZ : ∀ r, r < N → L r ≤ (Z r).length)
    (hz : ∀ r, r < N → w.cell? ⟨b, off + r, none⟩ = some (.slice (some ⟨gs r, 0, none⟩) (L r) (L r)))
    (hA : ∀ r, r < N → w.rowIs (gs r) 65 (L r * 2) (chunkTo (Z r) (L r))) :
    Calls Try.prog 30 #[.slice (some ⟨b, off, none⟩) N cap, .int .i64 (f : Int)] w fun e w' => (∃ n, e = .returned (.slice (some ⟨w.heap.size, 0, none⟩) n (sumL L N)) ∧ OutAt w' w.heap.size w.heap.size (sumL L N) n (liveTo L Z f N 0)) ∧ Below w.heap.size w w' := by
  obtain ⟨i0, hi, hz0, hz1, hz2⟩ := info_parts Try.info2'
  have HZ : Hid (∀ r, r < N → L r ≤ (Z r).length) := hZ
  have hL0 := hL 0 hN0
  clear hZ
  go_enter Try.func30, Try.ntmps30
  go_wp2
  go_loop [5, 6] (fun t i => ∃ k : Nat, i = .int .i64 (k : Int) ∧ k ≤ N ∧ t = .int .i64 (sumL L k : Int)) (fun _ i => N - (intOf i).toNat)
  case atStart => exact ⟨0, rfl, Nat.zero_le _, rfl⟩
  case round =>
    obtain ⟨k, rfl, hk, rfl⟩ := hrel
    by_cases hlt : k < N
    · have c1 := hz k hlt
      have hLk := hL k hlt
      have hsum := sumL_mono L (k + 1) N (by omega)
      have hse : Hid (sumL L (k + 1) = sumL L k + L k) := rfl
      have hsk : sumL L k + L k ≤ 131072 := by have := hse.out; omega
      clear hsum hz
      go_wp2
      go_round
      case rel => exact ⟨k + 1, by go_num, by omega, by rw [hse.out]; go_num⟩
      case measure => simp [intOf]; omega
    · obtain rfl : N = k := by omega
      go_wp2_with (at_make; refine wpList_make_own _ rfl _ _ 22 rfl w.heap.size 2 i0 (.int .i64 0) 1 Try.underlying22 hi hz0 hz1 _ _ _ (sumL L N) rfl rfl (by omega) ?b2 ?b3 (Nat.le_refl _) ?_)
      case b2 => omega
      case b3 => unfold maxLen; omega
      intro w0 hown0 hgrow0
      have HO0 : Hid (OutAt w0 w.heap.size w.heap.size (sumL L N) 0 (liveTo L Z f 0 0)) := ⟨by simp [liveTo, flatTo], by simpa [liveTo, flatTo] using hown0⟩
      have HB0 : Hid (Below w.heap.size w w0) := (Below.refl _ _).grown hgrow0 (Nat.le_refl _) (fun k h => by cases h)
      clear hown0 hgrow0
      go_wp2
      go_loopw [7, 8] (fun out i wr => ∃ k n : Nat, i = .int .i64 (k : Int) ∧ k ≤ N ∧ out = .slice (some ⟨w.heap.size, 0, none⟩) n (sumL L N) ∧ Hid (OutAt wr w.heap.size w.heap.size (sumL L N) n (liveTo L Z f k 0)) ∧ Hid (Below w.heap.size w wr)) (fun _ i _ => N - (intOf i).toNat)
      case atStart => exact ⟨0, 0, rfl, Nat.zero_le _, rfl, HO0, HB0⟩
      case round =>
        obtain ⟨k, n, rfl, hk, rfl, HO, HB⟩ := hrel
        obtain ⟨wo, rfl⟩ : ∃ wo : World, wo = wr := ⟨_, rfl⟩
        by_cases hlt : k < N
        · have hzk : Hid (w.rowIs (gs k) 65 (L k * 2) (chunkTo (Z k) (L k))) := hA k hlt
          have hLk := hL k hlt
          have c1 : w.cell? ⟨b, off + k, none⟩ = some (.slice (some ⟨gs k, 0, none⟩) (L k) (L k)) := hz k hlt
          have hsum := sumL_mono L (k + 1) N (by omega)
          have hse : Hid (sumL L (k + 1) = sumL L k + L k) := rfl
          have hsk : sumL L k + L k ≤ sumL L N := by have := hse.out; omega
          have hs1 : 0 < k → L 0 ≤ sumL L k := fun h => by have := sumL_mono L 1 k (by omega); simpa [sumL] using this
          clear hsum hA hz hL
          go_wp2
          go_loopw [7, 9] (fun out j wr => ∃ m n : Nat, j = .int .i64 (m : Int) ∧ m ≤ L k ∧ out = .slice (some ⟨w.heap.size, 0, none⟩) n (sumL L N) ∧ Hid (OutAt wr w.heap.size w.heap.size (sumL L N) n (liveTo L Z f k m)) ∧ Hid (Below w.heap.size w wr)) (fun _ j _ => L k - (intOf j).toNat)
          case atStart => exact ⟨0, n, rfl, Nat.zero_le _, rfl, HO, HB⟩
          case round =>
            clear HO HB
            obtain ⟨m, n, rfl, hm, rfl, HO, HB⟩ := hrel
            have d1 : wr.cell? ⟨b, off + k, none⟩ = some (.slice (some ⟨gs k, 0, none⟩) (L k) (L k)) := cell_later HB.out c1
            by_cases hmlt : m < L k
            · obtain ⟨z, hzz⟩ : ∃ z, Hid ((Z k).getD m 0 = z) := ⟨_, rfl⟩
              have d2 : wr.cell? ⟨gs k, m * 2, none⟩ = some (.int .i64 z) := by
                have := cell_later HB.out (hzk.out.cell (show m * 2 < L k * 2 by omega))
                rw [chunkTo_even, if_pos hmlt, hzz.out] at this; exact this
              have d3 : wr.cell? ⟨gs k, m * 2 + 1, none⟩ = some (.pointer none) := by
                have := cell_later HB.out (hzk.out.cell (show m * 2 + 1 < L k * 2 by omega))
                rw [chunkTo_odd] at this; exact this
              clear c1 hzk
              by_cases hskip : k = 0 ∧ m < f
              · obtain ⟨hk0, hmf⟩ := hskip
                have hkt : ((k : Int) == 0) = true := by simp; omega
                have HO2 : Hid (OutAt wr w.heap.size w.heap.size (sumL L N) n (liveTo L Z f k (m + 1))) := by
                  show OutAt _ _ _ _ _ _
                  have := HO.out
                  rw [hk0] at this ⊢
                  rw [liveTo_skip hmf]; exact this
                clear hk0 HO
                go_wp2
                go_roundw
                case rel => exact ⟨m + 1, n, by go_num, by omega, rfl, HO2, HB⟩
                case measure => simp [intOf]; omega
              · have hfle : f ≤ sumL L k + m := by
                  by_cases hk0 : k = 0
                  · have : ¬ m < f := fun h => hskip ⟨hk0, h⟩
                    omega
                  · have := hs1 (by omega); omega
                have HP : Hid (liveTo L Z f k (m + 1) = liveTo L Z f k m ++ [z]) := by show _ = _; rw [liveTo_push HZ.out hlt hmlt hfle, hzz.out]
                have hlen := liveTo_length (f := f) HZ.out hlt (Nat.le_of_lt hmlt)
                have hroom : n + 1 ≤ sumL L N := by have := HO.out.1; omega
                have HOW : Hid (∀ o o', ((wr.alloc o).alloc o').ownsRow w.heap.size 2 1 (.slice (some ⟨w.heap.size, 0, none⟩) n (sumL L N)) n ((liveTo L Z f k m).map (Value.int .i64))) := fun o o' => (HO.out.2.alloc o).alloc o'
                have fin : Hid (∀ o o' w1, w1.ownsRow w.heap.size 2 1 (.slice (some ⟨w.heap.size, 0, none⟩) (n + 1) (sumL L N)) (n + 1) ((liveTo L Z f k m).map (Value.int .i64) ++ [.int .i64 z]) → ((wr.alloc o).alloc o').grownBy w1 (some w.heap.size) → OutAt w1 w.heap.size w.heap.size (sumL L N) (n + 1) (liveTo L Z f k (m + 1)) ∧ Below w.heap.size w w1) := fun o o' w1 h1 h2 =>
                  ⟨by rw [HP.out]; exact HO.out.push h1, ((HB.out.alloc HB.out.size o).alloc (by simp; have := HB.out.size; omega) o').grown h2 (by simp; have := HB.out.size; omega) (fun k hk => by cases hk; exact Nat.le_refl _)⟩
                have hcase : ((k : Int) == 0) = true ∧ ¬ (m : Int) < (f : Int) ∨ ((k : Int) == 0) = false := by
                  by_cases hk0 : k = 0
                  · left; exact ⟨by simp; omega, by have : ¬ m < f := fun h => hskip ⟨hk0, h⟩; omega⟩
                  · right; simp; omega
                clear hskip hlen hfle hs1 HO HB HP HZ
                rcases hcase with ⟨t1, t2⟩ | t1
                all_goals
                  go_wp2_with (first | (go_at_call 38; refine (rev38 _ _ _).mono ?_; rintro e w1 ⟨rfl, rfl⟩) | (at_builtin; refine wpList_append_fits _ rfl (.tmp 47) (.tmp 56) 22 rfl w.heap.size 2 i0 1 Try.underlying22 hi hz1 w.heap.size n (sumL L N) _ rfl (HOW.out _ _) ⟨wr.heap.size + 1, 0, none⟩ 1 1 [.int .i64 z] rfl rfl (one_new' _ _ _ _) (by intro u hu; simp at hu; subst hu; rfl) hroom ?_; intro w1 hown1 hgrow1))
                  go_roundw
                  case rel => exact ⟨m + 1, n + 1, by go_num, by omega, rfl, (fin.out _ _ _ hown1 hgrow1).1, (fin.out _ _ _ hown1 hgrow1).2⟩
                  case measure => simp [intOf]; omega
            · obtain rfl : L k = m := by omega
              have HO2 : Hid (OutAt wr w.heap.size w.heap.size (sumL L N) n (liveTo L Z f (k + 1) 0)) := by show OutAt _ _ _ _ _ _; rw [liveTo_next]; exact HO.out
              clear HO c1 hzk
              go_wp2
              go_roundw
              case rel => exact ⟨k + 1, n, by go_num, by omega, rfl, HO2, HB⟩
              case measure => simp [intOf]; omega
        · obtain rfl : N = k := by omega
          go_wp2
          go_ret
          exact ⟨⟨n, rfl, HO.out⟩, HB.out⟩
end Go.Proofs.Qxb6603979a
