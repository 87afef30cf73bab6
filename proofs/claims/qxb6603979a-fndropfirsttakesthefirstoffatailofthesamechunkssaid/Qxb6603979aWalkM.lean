/-
  THE WALKS of dropFirst's law: zzLive, zzLiveChanges.
-/
import Derived.Test.Qxb6603979aWalkL
namespace Go.Proofs.Qxb6603979a
open Go.ChangeShapes Go.WideShapes Go.ChangeAt Go.RowKit

/-! ### the plain lists -/
def flatTo (L : Nat → Nat) (Z : Nat → List Int) : Nat → List Int
  | 0 => []
  | n + 1 => flatTo L Z n ++ (Z n).take (L n)
def liveTo (L : Nat → Nat) (Z : Nat → List Int) (f i j : Nat) : List Int := (flatTo L Z i ++ (Z i).take j).drop f
theorem flatTo_length (L : Nat → Nat) (Z : Nat → List Int) (N : Nat) (h : ∀ r, r < N → L r ≤ (Z r).length) : (flatTo L Z N).length = sumL L N := by
  induction N with
  | zero => rfl
  | succ N ih =>
    have := ih (fun r hr => h r (by omega))
    have hl := h N (by omega)
    simp only [flatTo, sumL, List.length_append, List.length_take, this]
    omega
theorem liveTo_length {L : Nat → Nat} {Z : Nat → List Int} {f i j N : Nat} (h : ∀ r, r < N → L r ≤ (Z r).length) (hi : i < N) (hj : j ≤ L i) : (liveTo L Z f i j).length = sumL L i + j - f := by
  have h1 := flatTo_length L Z i (fun r hr => h r (by omega))
  have h2 := h i hi
  simp only [liveTo, List.length_drop, List.length_append, List.length_take, h1]
  omega
theorem liveTo_next (L : Nat → Nat) (Z : Nat → List Int) (f i : Nat) : liveTo L Z f (i + 1) 0 = liveTo L Z f i (L i) := by
  simp [liveTo, flatTo]
theorem liveTo_skip {L : Nat → Nat} {Z : Nat → List Int} {f j : Nat} (hj : j < f) : liveTo L Z f 0 (j + 1) = liveTo L Z f 0 j := by
  unfold liveTo
  rw [List.drop_eq_nil_of_le (by simp [flatTo]; omega), List.drop_eq_nil_of_le (by simp [flatTo]; omega)]
theorem liveTo_push {L : Nat → Nat} {Z : Nat → List Int} {f i j N : Nat} (h : ∀ r, r < N → L r ≤ (Z r).length) (hi : i < N) (hj : j < L i) (hf : f ≤ sumL L i + j) : liveTo L Z f i (j + 1) = liveTo L Z f i j ++ [(Z i).getD j 0] := by
  have h1 := flatTo_length L Z i (fun r hr => h r (by omega))
  have h2 := h i hi
  unfold liveTo
  rw [List.take_succ_eq_append_getElem (by omega), ← List.append_assoc, List.drop_append_of_le_length (by simp [h1]; omega)]
  simp [List.getElem?_eq_getElem (show j < (Z i).length by omega)]

/-- The out slice, so far. -/
def OutAt (wr : World) (B H T n : Nat) (xs : List Int) : Prop := n = xs.length ∧ wr.ownsRow B 2 1 (.slice (some ⟨H, 0, none⟩) n T) n (xs.map (Value.int .i64))
theorem OutAt.push {wr w1 : World} {B H T n : Nat} {xs : List Int} {z : Int} (h : OutAt wr B H T n xs) (ho : w1.ownsRow B 2 1 (.slice (some ⟨H, 0, none⟩) (n + 1) T) (n + 1) (xs.map (Value.int .i64) ++ [.int .i64 z])) : OutAt w1 B H T (n + 1) (xs ++ [z]) :=
  ⟨by simp [h.1], by simpa using ho⟩
theorem OutAt.cell {wr : World} {B H T n : Nat} {xs : List Int} (h : OutAt wr B H T n xs) {c : Nat} (hc : c < n) : wr.cell? ⟨H, c, none⟩ = some (.int .i64 (xs.getD c 0)) := by
  have hx : c < xs.length := by rw [← h.1]; exact hc
  rw [h.2.cellAt c (by omega)]
  simp [hx]
theorem one_new (w : World) (v : Value) (t : TypeId) : ∀ j u, ([v] : List Value)[j]? = some u → (w.alloc (.cells #[v] t)).cell? ((⟨w.heap.size, 0, none⟩ : Addr).add j) = some u := by
  intro j u h
  match j, h with
  | 0, h => simp at h; subst h; simp [Addr.add]
  | j + 1, h => simp at h

theorem Try.info2' : (Try.prog.info? 2).map (fun i => (i.zero, i.size, i.bytes)) = some (some (.int .i64 0), 1, 8) := by kernel_rfl

set_option maxHeartbeats 2000000 in
theorem live29 (b off N cap f : Nat) (A : Nat → Option Addr) (L C : Nat → Nat) (Z : Nat → List Int) (w : World) (hN0 : 0 < N) (hN : N ≤ 65536) (hL : ∀ r, r < N → L r ≤ 131072) (hS : sumL L N ≤ 131072) (hf : f ≤ L 0)
    (hZ : ∀ r, r < N → L r ≤ (Z r).length)
    (hz : ∀ r, r < N → w.cell? ⟨b, off + r, none⟩ = some (.slice (A r) (L r) (C r)))
    (hA : ∀ r, r < N → ∃ b' o', A r = some ⟨b', o', none⟩ ∧ ∀ c, c < L r → w.cell? ⟨b', o' + c, none⟩ = some (.int .i64 ((Z r).getD c 0))) :
    Calls Try.prog 29 #[.slice (some ⟨b, off, none⟩) N cap, .int .i64 (f : Int)] w fun e w' => (∃ n, e = .returned (.slice (some ⟨w.heap.size, 0, none⟩) n (sumL L N)) ∧ OutAt w' w.heap.size w.heap.size (sumL L N) n (liveTo L Z f N 0)) ∧ Below w.heap.size w w' := by
  obtain ⟨i0, hi, hz0, hz1, hz2⟩ := info_parts Try.info2'
  have HZ : Hid (∀ r, r < N → L r ≤ (Z r).length) := hZ
  have hL0 := hL 0 hN0
  clear hZ
  go_enter Try.func29, Try.ntmps29
  go_wp2
  go_loop [5, 6] (fun t i => ∃ k : Nat, i = .int .i64 (k : Int) ∧ k ≤ N ∧ t = .int .i64 (sumL L k : Int)) (fun _ i => N - (intOf i).toNat)
  case atStart => exact ⟨0, rfl, Nat.zero_le _, rfl⟩
  case round =>
    obtain ⟨k, rfl, hk, rfl⟩ := hrel
    by_cases hlt : k < N
    · have c1 := hz k hlt
      have hLk := hL k hlt
      have hsum := sumL_mono L (k + 1) N (by omega)
      have hse : Hid (sumL L (k + 1) = sumL L k + L k) := rfl
      have hsk : sumL L k + L k ≤ 131072 := by have := hse.out; omega
      clear hsum hz
      go_wp2
      go_round
      case rel => exact ⟨k + 1, by go_num, by omega, by rw [hse.out]; go_num⟩
      case measure => simp [intOf]; omega
    · obtain rfl : N = k := by omega
      go_wp2_with (at_make; refine wpList_make_own _ rfl _ _ 22 rfl w.heap.size 2 i0 (.int .i64 0) 1 Try.underlying22 hi hz0 hz1 _ _ _ (sumL L N) rfl rfl (by omega) ?b2 ?b3 (Nat.le_refl _) ?_)
      case b2 => omega
      case b3 => unfold maxLen; omega
      intro w0 hown0 hgrow0
      have HO0 : Hid (OutAt w0 w.heap.size w.heap.size (sumL L N) 0 (liveTo L Z f 0 0)) := ⟨by simp [liveTo, flatTo], by simpa [liveTo, flatTo] using hown0⟩
      have HB0 : Hid (Below w.heap.size w w0) := (Below.refl _ _).grown hgrow0 (Nat.le_refl _) (fun k h => by cases h)
      clear hown0 hgrow0
      go_wp2
      go_loopw [7, 8] (fun out i wr => ∃ k n : Nat, i = .int .i64 (k : Int) ∧ k ≤ N ∧ out = .slice (some ⟨w.heap.size, 0, none⟩) n (sumL L N) ∧ Hid (OutAt wr w.heap.size w.heap.size (sumL L N) n (liveTo L Z f k 0)) ∧ Hid (Below w.heap.size w wr)) (fun _ i _ => N - (intOf i).toNat)
      case atStart => exact ⟨0, 0, rfl, Nat.zero_le _, rfl, HO0, HB0⟩
      case round =>
        obtain ⟨k, n, rfl, hk, rfl, HO, HB⟩ := hrel
        obtain ⟨wo, rfl⟩ : ∃ wo : World, wo = wr := ⟨_, rfl⟩
        by_cases hlt : k < N
        · obtain ⟨b', o', hAk, hzk⟩ := hA k hlt
          have hLk := hL k hlt
          have c1 : w.cell? ⟨b, off + k, none⟩ = some (.slice (some ⟨b', o', none⟩) (L k) (C k)) := by rw [← hAk]; exact hz k hlt
          have hsum := sumL_mono L (k + 1) N (by omega)
          have hse : Hid (sumL L (k + 1) = sumL L k + L k) := rfl
          have hsk : sumL L k + L k ≤ sumL L N := by have := hse.out; omega
          have hs1 : 0 < k → L 0 ≤ sumL L k := fun h => by have := sumL_mono L 1 k (by omega); simpa [sumL] using this
          clear hsum hA hz hAk hL
          go_wp2
          go_loopw [7, 9] (fun out j wr => ∃ m n : Nat, j = .int .i64 (m : Int) ∧ m ≤ L k ∧ out = .slice (some ⟨w.heap.size, 0, none⟩) n (sumL L N) ∧ Hid (OutAt wr w.heap.size w.heap.size (sumL L N) n (liveTo L Z f k m)) ∧ Hid (Below w.heap.size w wr)) (fun _ j _ => L k - (intOf j).toNat)
          case atStart => exact ⟨0, n, rfl, Nat.zero_le _, rfl, HO, HB⟩
          case round =>
            clear HO HB
            obtain ⟨m, n, rfl, hm, rfl, HO, HB⟩ := hrel
            have d1 : wr.cell? ⟨b, off + k, none⟩ = some (.slice (some ⟨b', o', none⟩) (L k) (C k)) := cell_later HB.out c1
            by_cases hmlt : m < L k
            · obtain ⟨z, hzz⟩ : ∃ z, Hid ((Z k).getD m 0 = z) := ⟨_, rfl⟩
              have d2 : wr.cell? ⟨b', o' + m, none⟩ = some (.int .i64 z) := by rw [← hzz.out]; exact cell_later HB.out (hzk m hmlt)
              clear c1 hzk
              by_cases hskip : k = 0 ∧ m < f
              · obtain ⟨hk0, hmf⟩ := hskip
                have hkt : ((k : Int) == 0) = true := by simp; omega
                have HO2 : Hid (OutAt wr w.heap.size w.heap.size (sumL L N) n (liveTo L Z f k (m + 1))) := by
                  show OutAt _ _ _ _ _ _
                  have := HO.out
                  rw [hk0] at this ⊢
                  rw [liveTo_skip hmf]; exact this
                clear hk0 HO
                go_wp2
                go_roundw
                case rel => exact ⟨m + 1, n, by go_num, by omega, rfl, HO2, HB⟩
                case measure => simp [intOf]; omega
              · have hfle : f ≤ sumL L k + m := by
                  by_cases hk0 : k = 0
                  · have : ¬ m < f := fun h => hskip ⟨hk0, h⟩
                    omega
                  · have := hs1 (by omega); omega
                have HP : Hid (liveTo L Z f k (m + 1) = liveTo L Z f k m ++ [z]) := by show _ = _; rw [liveTo_push HZ.out hlt hmlt hfle, hzz.out]
                have hlen := liveTo_length (f := f) HZ.out hlt (Nat.le_of_lt hmlt)
                have hroom : n + 1 ≤ sumL L N := by have := HO.out.1; omega
                have HOW : Hid (∀ o, (wr.alloc o).ownsRow w.heap.size 2 1 (.slice (some ⟨w.heap.size, 0, none⟩) n (sumL L N)) n ((liveTo L Z f k m).map (Value.int .i64))) := fun o => HO.out.2.alloc o
                have fin : Hid (∀ o w1, w1.ownsRow w.heap.size 2 1 (.slice (some ⟨w.heap.size, 0, none⟩) (n + 1) (sumL L N)) (n + 1) ((liveTo L Z f k m).map (Value.int .i64) ++ [.int .i64 z]) → (wr.alloc o).grownBy w1 (some w.heap.size) → OutAt w1 w.heap.size w.heap.size (sumL L N) (n + 1) (liveTo L Z f k (m + 1)) ∧ Below w.heap.size w w1) := fun o w1 h1 h2 =>
                  ⟨by rw [HP.out]; exact HO.out.push h1, (HB.out.alloc HB.out.size o).grown h2 (by simp; have := HB.out.size; omega) (fun k hk => by cases hk; exact Nat.le_refl _)⟩
                have hcase : ((k : Int) == 0) = true ∧ ¬ (m : Int) < (f : Int) ∨ ((k : Int) == 0) = false := by
                  by_cases hk0 : k = 0
                  · left; exact ⟨by simp; omega, by have : ¬ m < f := fun h => hskip ⟨hk0, h⟩; omega⟩
                  · right; simp; omega
                clear hskip hlen hfle hs1 HO HB HP HZ
                rcases hcase with ⟨t1, t2⟩ | t1
                all_goals
                  go_wp2_with (at_builtin; refine wpList_append_fits _ rfl (.tmp 47) (.tmp 55) 22 rfl w.heap.size 2 i0 1 Try.underlying22 hi hz1 w.heap.size n (sumL L N) _ rfl (HOW.out _) ⟨wr.heap.size, 0, none⟩ 1 1 [.int .i64 z] rfl rfl (one_new _ _ _) (by intro u hu; simp at hu; subst hu; rfl) hroom ?_; intro w1 hown1 hgrow1)
                  go_roundw
                  case rel => exact ⟨m + 1, n + 1, by go_num, by omega, rfl, (fin.out _ _ hown1 hgrow1).1, (fin.out _ _ hown1 hgrow1).2⟩
                  case measure => simp [intOf]; omega
            · obtain rfl : L k = m := by omega
              have HO2 : Hid (OutAt wr w.heap.size w.heap.size (sumL L N) n (liveTo L Z f (k + 1) 0)) := by show OutAt _ _ _ _ _ _; rw [liveTo_next]; exact HO.out
              clear HO c1 hzk
              go_wp2
              go_roundw
              case rel => exact ⟨k + 1, n, by go_num, by omega, rfl, HO2, HB⟩
              case measure => simp [intOf]; omega
        · obtain rfl : N = k := by omega
          go_wp2
          go_ret
          exact ⟨⟨n, rfl, HO.out⟩, HB.out⟩
end Go.Proofs.Qxb6603979a
