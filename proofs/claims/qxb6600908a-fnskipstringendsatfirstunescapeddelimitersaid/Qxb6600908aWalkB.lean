/-
  THE WALKS of the laws' helpers: zzBytes (two), countNL, quotesAt, backslashesBefore.
-/
import Derived.Test.Qxb6600908aRows
import Derived.Test.Qxb6600908aPlain
import Derived.WalkKit
import Derived.ProofKit
import Derived.WalkLawsBesides
import Derived.WalkSpells
import Derived.Below
import Derived.Deep.QuietTactic
import Derived.BigQuiet
import Derived.RegionTactic
import Derived.BigRegion
namespace Go.Proofs.Qxb6600908a
open Go.ChangeShapes Go.WideShapes Go.ChangeAt Go.RowKit

/-- The call answers a bool. -/
def Says (e : Ending) : Prop := ∃ ok, e = .returned (.bool ok)
theorem Says.mk (ok : Bool) : Says (.returned (.bool ok)) := ⟨ok, rfl⟩
theorem bne_byte {x y : UInt8} (h : ¬ x = y) : ((x.toNat : Int) == (y.toNat : Int)) = false := by
  apply beq_false_of_ne
  intro hh
  exact h (UInt8.toNat_inj.1 (by omega))

set_option maxHeartbeats 400000 in
theorem bytes6 (s : ByteArray) (p L : Int) (w : World) (hs : s.size ≤ maxLen) :
    Calls Try.prog 6 #[.string s, .int .i64 p, .int .i64 L] w fun e w' => Says e ∧ w' = w := by
  unfold maxLen at hs
  by_cases h : s.size ≤ 1048576
  · have h' : ¬ (1048576 : Int) < (s.size : Int) := by omega
    go_enter Try.func6, Try.ntmps6
    go_wp2
    go_ret
    exact ⟨Says.mk _, rfl⟩
  · have h' : (1048576 : Int) < (s.size : Int) := by omega
    go_enter Try.func6, Try.ntmps6
    go_wp2
    go_ret
    exact ⟨Says.mk _, rfl⟩

set_option maxHeartbeats 800000 in
theorem bytes11 (s t u : ByteArray) (c : Bool) (L : Int) (w : World) (hs : s.size ≤ maxLen) (ht : t.size ≤ maxLen) (hu : u.size ≤ maxLen) :
    Calls Try.prog 11 #[.string s, .string t, .string u, .bool c, .int .i64 L] w fun e w' => Says e ∧ w' = w := by
  unfold maxLen at hs ht hu
  go_enter Try.func11, Try.ntmps11
  go_wp2
  all_goals
    go_ret
    exact ⟨Says.mk _, rfl⟩

set_option maxHeartbeats 400000 in
theorem count10 (s : ByteArray) (i j : Nat) (w : World) (hi : i ≤ j) (hj : j ≤ s.size) (hs : s.size ≤ 4194304) :
    Calls Try.prog 10 #[.string s, .int .i64 (i : Int), .int .i64 (j : Int)] w fun e w' => e = .returned (.int .i64 (nlIn s.data.toList i j : Nat)) ∧ w' = w := by
  go_enter Try.func10, Try.ntmps10
  go_wp2
  go_loop [7, 8] (fun n k => ∃ m p : Nat, n = .int .i64 (m : Int) ∧ k = .int .i64 (p : Int) ∧ i ≤ p ∧ p ≤ j ∧ m ≤ p ∧ Hid (m = nlIn s.data.toList i p)) (fun _ k => j - (intOf k).toNat)
  case atStart => exact ⟨0, i, rfl, rfl, by omega, by omega, by omega, (nlIn_self _ _).symm⟩
  case round =>
    obtain ⟨m, p, rfl, rfl, h1, h2, h3, hm⟩ := hrel
    by_cases hlt : p < j
    · have hlt' : (p : Int) < (j : Int) := by omega
      have hls : (p : Int) < (s.size : Int) := by omega
      have hps : p < s.size := by omega
      obtain ⟨x, hx⟩ : ∃ x, s[p] = x := ⟨_, rfl⟩
      have HN : Hid (nlIn s.data.toList i (p + 1) = m + nl [x]) := by
        show _ = _
        rw [hm.out, ← hx]; exact nlIn_succ s i p h1 hps
      clear hm
      by_cases h10 : x = 10
      · have e1 : ((x.toNat : Int) == 10) = true := by rw [h10]; rfl
        have HN' : Hid (m + 1 = nlIn s.data.toList i (p + 1)) := by show _ = _; rw [HN.out, h10]; rfl
        clear HN h10
        go_wp2
        go_round
        case rel => exact ⟨m + 1, p + 1, by go_num, by go_num, by omega, by omega, by omega, HN'⟩
        case measure => simp [intOf]; omega
      · have e1 : ((x.toNat : Int) == 10) = false := bne_byte h10
        have HN' : Hid (m = nlIn s.data.toList i (p + 1)) := by show _ = _; rw [HN.out]; simp [nl, h10]
        clear HN h10
        go_wp2
        go_round
        case rel => exact ⟨m, p + 1, rfl, by go_num, by omega, by omega, by omega, HN'⟩
        case measure => simp [intOf]; omega
    · have hlt' : ¬ (p : Int) < (j : Int) := by omega
      obtain rfl : p = j := by omega
      go_wp2
      go_ret
      exact ⟨by rw [← hm.out]; rfl, rfl⟩

theorem pre_step (q : UInt8) (s : ByteArray) (i n : Nat) (h : i < s.size) (hn : 0 < n) :
    (List.replicate n q).isPrefixOf (s.data.toList.drop i) = (q == s[i] && (List.replicate (n - 1) q).isPrefixOf (s.data.toList.drop (i + 1))) := by
  obtain ⟨m, rfl⟩ : ∃ m, n = m + 1 := ⟨n - 1, by omega⟩
  rw [drop_at s i h, List.replicate_succ]
  simp [List.isPrefixOf]

set_option maxHeartbeats 400000 in
theorem quotes8 (s : ByteArray) (i n : Nat) (q : UInt8) (w : World) (hs : s.size ≤ 4194304) (hi : i ≤ s.size) (hn : n ≤ 3) :
    Calls Try.prog 8 #[.string s, .int .i64 (i : Int), .int .i64 (n : Int), .int .u8 (q.toNat : Int)] w fun e w' => e = .returned (.bool ((List.replicate n q).isPrefixOf (s.data.toList.drop i))) ∧ w' = w := by
  obtain ⟨t, ht⟩ : ∃ t, Hid ((List.replicate n q).isPrefixOf (s.data.toList.drop i) = t) := ⟨_, rfl⟩
  rw [ht.out]
  by_cases hl : s.size < i + n
  · have hl' : (s.size : Int) < (i : Int) + (n : Int) := by omega
    have HT : Hid (t = false) := by
      show _ = _
      rw [← ht.out]
      cases hb : (List.replicate n q).isPrefixOf (s.data.toList.drop i) with
      | false => rfl
      | true =>
        rw [List.isPrefixOf_iff_prefix] at hb
        have := hb.length_le
        rw [List.length_replicate, List.length_drop, ← Lib.size_eq] at this
        omega
    clear ht
    go_enter Try.func8, Try.ntmps8
    go_wp2
    go_ret
    exact ⟨by rw [HT.out]; rfl, rfl⟩
  · have hl' : ¬ (s.size : Int) < (i : Int) + (n : Int) := by omega
    go_enter Try.func8, Try.ntmps8
    go_wp2
    go_loop [9] (fun k => ∃ m : Nat, k = .int .i64 (m : Int) ∧ m ≤ n ∧ Hid ((List.replicate (n - m) q).isPrefixOf (s.data.toList.drop (i + m)) = t)) (fun k => n - (intOf k).toNat)
    case atStart => exact ⟨0, rfl, by omega, ht⟩
    case round =>
      clear ht
      obtain ⟨m, rfl, hm, HT⟩ := hrel
      by_cases hlt : m < n
      · have hlt' : (m : Int) < (n : Int) := by omega
        have hls : (i : Int) + (m : Int) < (s.size : Int) := by omega
        have hps : i + m < s.size := by omega
        obtain ⟨x, hx⟩ : ∃ x, s[i + m] = x := ⟨_, rfl⟩
        have HS : Hid (t = (q == x && (List.replicate (n - (m + 1)) q).isPrefixOf (s.data.toList.drop (i + (m + 1))))) := by
          show _ = _
          rw [← HT.out, pre_step q s (i + m) (n - m) hps (by omega), hx]
          rfl
        clear HT
        by_cases hq : x = q
        · subst hq
          have e1 : ((x.toNat : Int) != (x.toNat : Int)) = false := by simp
          have HT2 : Hid ((List.replicate (n - (m + 1)) x).isPrefixOf (s.data.toList.drop (i + (m + 1))) = t) := by
            show _ = _
            rw [HS.out]; simp
          clear HS
          go_wp2
          go_round
          case rel => exact ⟨m + 1, by go_num, by omega, HT2⟩
          case measure => simp [intOf]; omega
        · have e1 : ((x.toNat : Int) != (q.toNat : Int)) = true := by rw [bne, bne_byte hq]; rfl
          have HF : Hid (t = false) := by
            show _ = _
            rw [HS.out, beq_false_of_ne (Ne.symm hq)]; rfl
          clear HS
          go_wp2
          go_ret
          exact ⟨by rw [HF.out]; rfl, rfl⟩
      · have hlt' : ¬ (m : Int) < (n : Int) := by omega
        have HF : Hid (t = true) := by
          show _ = _
          rw [← HT.out, show n - m = 0 by omega]; rfl
        clear HT
        go_wp2
        go_ret
        exact ⟨by rw [HF.out]; rfl, rfl⟩

set_option maxHeartbeats 400000 in
theorem before9 (s : ByteArray) (st i : Nat) (w : World) (hs : s.size ≤ 4194304) (hi : i < s.size) (hst : st ≤ i) :
    Calls Try.prog 9 #[.string s, .int .i64 (st : Int), .int .i64 (i : Int)] w fun e w' => e = .returned (.int .i64 (bsl s st i : Nat)) ∧ w' = w := by
  go_enter Try.func9, Try.ntmps9
  go_wp2
  go_loop [7, 8] (fun n k => ∃ m p : Nat, n = .int .i64 (m : Int) ∧ k = .int .i64 ((p : Int) - 1) ∧ st ≤ p ∧ p ≤ i ∧ m + p = i ∧ Hid (bsl s st i = bsl s st p + m)) (fun _ k => (intOf k + 1).toNat)
  case atStart => exact ⟨0, i, rfl, by go_num, hst, by omega, by omega, rfl⟩
  case round =>
    obtain ⟨m, p, rfl, rfl, h1, h2, h3, hm⟩ := hrel
    by_cases hlt : st < p
    · obtain ⟨r, rfl⟩ : ∃ r, p = r + 1 := ⟨p - 1, by omega⟩
      have hps : r < s.size := by omega
      have e0 : ((r + 1 : Nat) : Int) - 1 = (r : Int) := by omega
      rw [e0]
      have e1 : decide ((st : Int) ≤ (r : Int)) = true := decide_eq_true (by omega)
      have e1' : (st : Int) ≤ (r : Int) := by omega
      have e2 : (r : Int) < (s.size : Int) := by omega
      obtain ⟨x, hx⟩ : ∃ x, s[r] = x := ⟨_, rfl⟩
      clear e0
      by_cases hc : x = 92
      · have e3 : ((x.toNat : Int) == 92) = true := by rw [hc]; rfl
        have HM : Hid (bsl s st i = bsl s st r + (m + 1)) := by
          show _ = _
          rw [hm.out, bsl_one s st r (by omega) hps (hx.trans hc)]; omega
        clear hm hc
        go_wp2
        go_round
        case rel => exact ⟨m + 1, r, by go_num, by go_num, by omega, by omega, by omega, HM⟩
        case measure => simp [intOf]
      · have e3 : ((x.toNat : Int) == 92) = false := bne_byte hc
        have HM : Hid (bsl s st i = m) := by
          show _ = _
          rw [hm.out, bsl_zero s st r (fun _ _ h => hc (hx.symm.trans h))]; omega
        clear hm hc
        go_wp2
        go_ret
        exact ⟨by rw [HM.out]; rfl, rfl⟩
    · obtain rfl : p = st := by omega
      have e1 : decide ((p : Int) ≤ (p : Int) - 1) = false := decide_eq_false (by omega)
      have HM : Hid (bsl s p i = m) := by
        show _ = _
        rw [hm.out, bsl_start]; omega
      clear hm
      go_wp2
      go_ret
      exact ⟨by rw [HM.out]; rfl, rfl⟩
end Go.Proofs.Qxb6600908a
