/-
  THE WALKS of the byte helpers: zzHasPrefix, zzCompareBytes, zzPrefixEndsSevenBit, zzInSpan.
-/
import Derived.Test.Qxb6603979aRows
import Derived.Test.Qxb6603979aWalkB
import Derived.Test.Qxb6603979aLex
import Derived.WalkKit
import Derived.ProofKit
import Derived.WalkLawsBesides
import Derived.WalkSpells
import Derived.Below
import Derived.Deep.QuietTactic
import Derived.BigQuiet
import Derived.RegionTactic
namespace Go.Proofs.Qxb6603979a
open Go.ChangeShapes Go.WideShapes Go.ChangeAt Go.RowKit

/-- A slice of bytes as the law meets it: empty (nil or not), or over cells that hold xs. -/
def BytesAt (w : World) (a : Option Addr) (xs : List Int) : Prop :=
  xs = [] ∨ ∃ b off, a = some ⟨b, off, none⟩ ∧ ∀ j, j < xs.length → w.cell? ⟨b, off + j, none⟩ = some (.int .u8 (xs.getD j 0))
/-- The call answers a bool: yes just where P holds. -/
def SaysIff (e : Ending) (P : Prop) : Prop := ∃ ok, e = .returned (.bool ok) ∧ (ok = true ↔ P)
theorem SaysIff.no {P : Prop} (h : ¬ P) : SaysIff (.returned (.bool false)) P := ⟨false, rfl, by simp [h]⟩
theorem SaysIff.yes {P : Prop} (h : P) : SaysIff (.returned (.bool true)) P := ⟨true, rfl, by simp [h]⟩

theorem dr2 (w : World) (q n : Nat) : ∃ x, (w.drewN q).drewN n = w.drewN x := ⟨q + n, World.drewN_drewN w q n⟩
theorem dr3 (w : World) (q n m : Nat) : ∃ x, ((w.drewN q).drewN n).drewN m = w.drewN x := ⟨q + (n + m), by rw [World.drewN_drewN, World.drewN_drewN]⟩

theorem drop_cons (l : List Int) (m : Nat) (h : m < l.length) : l.drop m = l.getD m 0 :: l.drop (m + 1) := by
  rw [List.drop_eq_getElem_cons h]
  simp [List.getElem?_eq_getElem h]
theorem begins_len : ∀ k p : List Int, begins k p = true → p.length ≤ k.length
  | _, [], _ => by simp
  | [], _ :: _, h => by simp [begins] at h
  | a :: x, b :: y, h => by
    simp only [begins, Bool.and_eq_true] at h
    have := begins_len x y h.2
    simp; omega

set_option maxHeartbeats 400000 in
theorem has_any (a1 a2 : Option Addr) (k p : List Int) (c1 c2 : Nat) (w : World) (hk : k.length ≤ 1048576) (hp : p.length ≤ 1048576) (r1 : BytesAt w a1 k) (r2 : BytesAt w a2 p) :
    Calls Try.prog 34 #[.slice a1 k.length c1, .slice a2 p.length c2] w fun e w' => SaysIff e (begins k p = true) ∧ ∃ q, w' = w.drewN q := by
  by_cases hl : k.length < p.length
  · have HN : Hid (¬ begins k p = true) := fun h => by have := begins_len k p h; omega
    go_enter Try.func34, Try.ntmps34
    go_wp2
    go_ret
    exact ⟨SaysIff.no HN.out, 0, rfl⟩
  by_cases h0 : p = []
  · subst h0
    have HN : Hid (begins k [] = true) := by cases k <;> rfl
    go_enter Try.func34, Try.ntmps34
    go_wp2
    go_loop [5] (fun i => i = .int .i64 0) (fun _ => 0)
    case atStart => rfl
    case round =>
      subst hrel
      go_wp2
      go_ret
      exact ⟨SaysIff.yes HN.out, 0, rfl⟩
  have hpl : 0 < p.length := List.length_pos_iff.2 h0
  obtain ⟨b1, o1, rfl, z1⟩ : ∃ b off, a1 = some ⟨b, off, none⟩ ∧ ∀ j, j < k.length → w.cell? ⟨b, off + j, none⟩ = some (.int .u8 (k.getD j 0)) := by
    rcases r1 with h | h
    · rw [h] at hl; simp only [List.length_nil] at hl; omega
    · exact h
  obtain ⟨b2, o2, rfl, z2⟩ : ∃ b off, a2 = some ⟨b, off, none⟩ ∧ ∀ j, j < p.length → w.cell? ⟨b, off + j, none⟩ = some (.int .u8 (p.getD j 0)) := by
    rcases r2 with h | h
    · exact absurd h h0
    · exact h
  clear r1 r2 h0
  go_enter Try.func34, Try.ntmps34
  go_wp2
  go_loopw [5] (fun i wr => ∃ m : Nat, i = .int .i64 (m : Int) ∧ m ≤ p.length ∧ Hid (begins k p = begins (k.drop m) (p.drop m)) ∧ ∃ q, wr = w.drewN q) (fun i _ => p.length - (intOf i).toNat)
  case atStart => exact ⟨0, rfl, by omega, rfl, 0, rfl⟩
  case round =>
    obtain ⟨m, rfl, hm, HB, q, rfl⟩ := hrel
    by_cases hlt : m < p.length
    · have hlk : m < k.length := by omega
      have hlt' : (m : Int) < (p.length : Int) := by omega
      have hlk' : (m : Int) < (k.length : Int) := by omega
      obtain ⟨x, hx⟩ : ∃ x, Hid (k.getD m 0 = x) := ⟨_, rfl⟩
      obtain ⟨y, hy⟩ : ∃ y, Hid (p.getD m 0 = y) := ⟨_, rfl⟩
      have g1 : w.cell? ⟨b1, o1 + m, none⟩ = some (.int .u8 x) := by rw [← hx.out]; exact z1 m hlk
      have g2 : w.cell? ⟨b2, o2 + m, none⟩ = some (.int .u8 y) := by rw [← hy.out]; exact z2 m hlt
      clear z1 z2
      have HS : Hid (begins k p = (decide (x = y) && begins (k.drop (m + 1)) (p.drop (m + 1)))) := by
        show _ = _
        rw [HB.out, drop_cons k m hlk, drop_cons p m hlt, hx.out, hy.out]
        simp only [begins]
      clear HB
      by_cases he : x = y
      · subst he
        have HE : Hid (begins k p = begins (k.drop (m + 1)) (p.drop (m + 1))) := by
          show _ = _
          rw [HS.out]; simp
        clear HS
        go_wp2
        go_quiet (fail)
        go_wp2
        go_roundw
        case rel => exact ⟨m + 1, by go_num, by omega, HE, by first | exact ⟨_, rfl⟩ | exact dr2 _ _ _ | exact dr3 _ _ _ _⟩
        case measure => simp [intOf]; omega
      · have he' : (x != y) = true := by simpa using he
        have HN : Hid (¬ begins k p = true) := by
          show ¬ _
          rw [HS.out]; simp [he]
        clear HS
        go_wp2
        go_quiet (fail)
        go_wp2
        go_ret
        exact ⟨SaysIff.no HN.out, by first | exact ⟨_, rfl⟩ | exact dr2 _ _ _ | exact dr3 _ _ _ _⟩
    · have HE : Hid (begins k p = true) := by
        show _ = _
        rw [HB.out, (List.drop_eq_nil_of_le (by omega) : p.drop _ = [])]
        cases k.drop m <;> rfl
      clear HB
      go_wp2
      go_ret
      exact ⟨SaysIff.yes HE.out, by first | exact ⟨_, rfl⟩ | exact dr2 _ _ _ | exact dr3 _ _ _ _⟩

/-- What zzCompareBytes answers: below 0 just where x comes before y. -/
def Cmps (e : Ending) (x y : List Int) : Prop := ∃ c, e = .returned (.int .i64 c) ∧ (c < 0 ↔ lexB x y = true)
theorem Cmps.below {x y : List Int} (h : lexB x y = true) : Cmps (.returned (.int .i64 (-1))) x y := ⟨-1, rfl, by simp [h]⟩
theorem Cmps.above {x y : List Int} {c : Int} (hc : 0 ≤ c) (h : lexB x y = false) : Cmps (.returned (.int .i64 c)) x y := ⟨c, rfl, by simp [h]; omega⟩
theorem lexB_nil (x : List Int) : lexB x [] = false := by cases x <;> rfl
theorem lexB_short (x : List Int) (h : 0 < x.length) : lexB [] x = true := by
  cases x with
  | nil => simp at h
  | cons a x => rfl

set_option maxHeartbeats 400000 in
theorem cmp_any (a1 a2 : Option Addr) (k p : List Int) (c1 c2 : Nat) (w : World) (hk : k.length ≤ 1048576) (hp : p.length ≤ 1048576) (r1 : BytesAt w a1 k) (r2 : BytesAt w a2 p) :
    Calls Try.prog 19 #[.slice a1 k.length c1, .slice a2 p.length c2] w fun e w' => Cmps e k p ∧ ∃ q, w' = w.drewN q := by
  by_cases h00 : k.length = 0 ∨ p.length = 0
  · by_cases h1 : k.length = 0
    · obtain rfl := List.eq_nil_of_length_eq_zero h1
      clear h1
      by_cases h2 : p.length = 0
      · obtain rfl := List.eq_nil_of_length_eq_zero h2
        have HA : Hid (lexB [] [] = false) := rfl
        go_enter Try.func19, Try.ntmps19
        go_wp2
        go_loop [5] (fun i => i = .int .i64 0) (fun _ => 0)
        case atStart => rfl
        case round =>
          subst hrel
          go_wp2
          go_ret
          exact ⟨Cmps.above (by omega) HA.out, 0, rfl⟩
      · have HA : Hid (lexB [] p = true) := lexB_short p (by omega)
        have hpl : 0 < p.length := by omega
        go_enter Try.func19, Try.ntmps19
        go_wp2
        go_loop [5] (fun i => i = .int .i64 0) (fun _ => 0)
        case atStart => rfl
        case round =>
          subst hrel
          go_wp2
          go_ret
          exact ⟨Cmps.below HA.out, 0, rfl⟩
    · obtain rfl := List.eq_nil_of_length_eq_zero (l := p) (by omega)
      have HA : Hid (lexB k [] = false) := lexB_nil k
      have hkl : 0 < k.length := by omega
      clear h1 h00
      go_enter Try.func19, Try.ntmps19
      go_wp2
      go_loop [5] (fun i => i = .int .i64 0) (fun _ => 0)
      case atStart => rfl
      case round =>
        subst hrel
        go_wp2
        go_ret
        exact ⟨Cmps.above (by omega) HA.out, 0, rfl⟩
  obtain ⟨b1, o1, rfl, z1⟩ : ∃ b off, a1 = some ⟨b, off, none⟩ ∧ ∀ j, j < k.length → w.cell? ⟨b, off + j, none⟩ = some (.int .u8 (k.getD j 0)) := by
    rcases r1 with h | h
    · rw [h] at h00; simp at h00
    · exact h
  obtain ⟨b2, o2, rfl, z2⟩ : ∃ b off, a2 = some ⟨b, off, none⟩ ∧ ∀ j, j < p.length → w.cell? ⟨b, off + j, none⟩ = some (.int .u8 (p.getD j 0)) := by
    rcases r2 with h | h
    · rw [h] at h00; simp at h00
    · exact h
  clear r1 r2 h00
  go_enter Try.func19, Try.ntmps19
  go_wp2
  go_loopw [5] (fun i wr => ∃ m : Nat, i = .int .i64 (m : Int) ∧ m ≤ p.length ∧ m ≤ k.length ∧ Hid (lexB k p = lexB (k.drop m) (p.drop m)) ∧ ∃ q, wr = w.drewN q) (fun i _ => p.length - (intOf i).toNat)
  case atStart => exact ⟨0, rfl, by omega, by omega, rfl, 0, rfl⟩
  case round =>
    obtain ⟨m, rfl, hm, hm2, HB, q, rfl⟩ := hrel
    by_cases hboth : m < k.length ∧ m < p.length
    · obtain ⟨hlk, hlt⟩ := hboth
      have hlt' : (m : Int) < (p.length : Int) := by omega
      have hlk' : (m : Int) < (k.length : Int) := by omega
      obtain ⟨x, hx⟩ : ∃ x, Hid (k.getD m 0 = x) := ⟨_, rfl⟩
      obtain ⟨y, hy⟩ : ∃ y, Hid (p.getD m 0 = y) := ⟨_, rfl⟩
      have g1 : w.cell? ⟨b1, o1 + m, none⟩ = some (.int .u8 x) := by rw [← hx.out]; exact z1 m hlk
      have g2 : w.cell? ⟨b2, o2 + m, none⟩ = some (.int .u8 y) := by rw [← hy.out]; exact z2 m hlt
      clear z1 z2
      have HS : Hid (lexB k p = (decide (x < y) || (decide (x = y) && lexB (k.drop (m + 1)) (p.drop (m + 1))))) := by
        show _ = _
        rw [HB.out, drop_cons k m hlk, drop_cons p m hlt, hx.out, hy.out]
        simp only [lexB]
      clear HB hm hm2
      by_cases h1 : x < y
      · have HA : Hid (lexB k p = true) := by
          show _ = _
          rw [HS.out]; simp [h1]
        clear HS
        go_wp2
        go_quiet (fail)
        go_wp2
        go_ret
        exact ⟨Cmps.below HA.out, by first | exact ⟨_, rfl⟩ | exact dr2 _ _ _ | exact dr3 _ _ _ _⟩
      · by_cases h2 : y < x
        · have HA : Hid (lexB k p = false) := by
            show _ = _
            rw [HS.out]; simp [h1]; intro h; omega
          clear HS
          go_wp2
          go_quiet (fail)
          go_wp2
          go_quiet (fail)
          go_wp2
          go_ret
          exact ⟨Cmps.above (by omega) HA.out, by first | exact ⟨_, rfl⟩ | exact dr2 _ _ _ | exact dr3 _ _ _ _⟩
        · obtain rfl : x = y := by omega
          have HE : Hid (lexB k p = lexB (k.drop (m + 1)) (p.drop (m + 1))) := by
            show _ = _
            rw [HS.out]; simp
          clear HS
          go_wp2
          go_quiet (fail)
          go_wp2
          go_quiet (fail)
          go_wp2
          go_roundw
          case rel => exact ⟨m + 1, by go_num, by omega, by omega, HE, by first | exact ⟨_, rfl⟩ | exact dr2 _ _ _ | exact dr3 _ _ _ _⟩
          case measure => simp [intOf]; omega
    · by_cases hkm : k.length = m
      · subst hkm
        by_cases hpm : p.length = k.length
        · have HA : Hid (lexB k p = false) := by
            show _ = _
            rw [HB.out, (List.drop_eq_nil_of_le (by omega) : p.drop _ = [])]
            exact lexB_nil _
          clear HB
          rw [hpm]
          have hpm' : Hid (p.length = k.length) := hpm
          clear hpm
          go_wp2
          go_ret
          exact ⟨Cmps.above (by omega) HA.out, by first | exact ⟨_, rfl⟩ | exact dr2 _ _ _ | exact dr3 _ _ _ _⟩
        · have hlt : k.length < p.length := by omega
          have HA : Hid (lexB k p = true) := by
            show _ = _
            rw [HB.out, (List.drop_eq_nil_of_le (by omega) : k.drop _ = [])]
            exact lexB_short _ (by simp; omega)
          clear HB hpm
          go_wp2
          go_ret
          exact ⟨Cmps.below HA.out, by first | exact ⟨_, rfl⟩ | exact dr2 _ _ _ | exact dr3 _ _ _ _⟩
      · have hlt : m < k.length := by omega
        obtain rfl : m = p.length := by omega
        have HA : Hid (lexB k p = false) := by
          show _ = _
          rw [HB.out, (List.drop_eq_nil_of_le (by omega) : p.drop _ = [])]
          exact lexB_nil _
        clear HB hkm
        go_wp2
        go_ret
        exact ⟨Cmps.above (by omega) HA.out, by first | exact ⟨_, rfl⟩ | exact dr2 _ _ _ | exact dr3 _ _ _ _⟩
end Go.Proofs.Qxb6603979a
