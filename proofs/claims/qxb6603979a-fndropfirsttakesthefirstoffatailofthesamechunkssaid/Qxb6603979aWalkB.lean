/-
  THE WALKS of the guards of the firstAbove laws.
-/
import Derived.Test.Qxb6603979aWalkA
namespace Go.Proofs.Qxb6603979a
open Go.ChangeShapes Go.WideShapes Go.ChangeAt Go.RowKit

/-- WHAT zzTreeWellFormed SAYS YES TO. -/
def WellFormed (zs : List Int) (len : Nat) (n : Int) : Prop :=
  ∃ W, len = 2 * W ∧ n ≤ (W : Int) ∧ (∀ i : Nat, n ≤ (i : Int) → i < W → zs.getD (W + i) 0 = 0) ∧ (W = 0 ∨ ∃ h, W = 2 ^ h ∧ Tree.Shape (fun j => zs.getD j 0) h)

/-- The call answers a bool; if it says yes, P holds. -/
def SaysIf (e : Ending) (P : Prop) : Prop := ∃ ok, e = .returned (.bool ok) ∧ (ok = true → P)
theorem SaysIf.no {P : Prop} : SaysIf (.returned (.bool false)) P := ⟨false, rfl, fun h => by cases h⟩
theorem SaysIf.yes {P : Prop} (h : P) : SaysIf (.returned (.bool true)) P := ⟨true, rfl, fun _ => h⟩
theorem SaysIf.mono {e : Ending} {P Q : Prop} (h : SaysIf e P) (k : P → Q) : SaysIf e Q := by
  obtain ⟨ok, he, hp⟩ := h
  exact ⟨ok, he, fun x => k (hp x)⟩

theorem and_pred (W : Nat) (h0 : 0 < W) (h : W ≤ 9223372036854775807) : bits .and .i64 (W : Int) ((W : Int) - 1) = ((W &&& (W - 1) : Nat) : Int) := by
  have := Tree.i64_and_nat W (W - 1) (by omega) (by omega)
  rw [← this]
  congr 1
  omega
theorem and_zero : bits .and .i64 0 (-1) = 0 := by decide

set_option maxHeartbeats 400000 in
theorem wf_pow (b off W cap : Nat) (n : Int) (zs : List Int) (w : World) (hW : W ≤ 65536) (hn : n ≤ (W : Int)) (hand : (bits .and .i64 (W : Int) ((W : Int) - 1) == 0) = true) (HP : Hid (W = 0 ∨ ∃ h, W = 2 ^ h))
    (hz : ∀ j, j < 2 * W → w.cell? ⟨b, off + j, none⟩ = some (.int .i64 (zs.getD j 0))) :
    Calls Try.prog 9 #[.slice (some ⟨b, off, none⟩) (2 * W) cap, .int .i64 n] w fun e w' => SaysIf e (WellFormed zs (2 * W) n) ∧ w' = w := by
  obtain ⟨lo, hlo0⟩ : ∃ lo : Nat, (lo : Int) = max n 0 := ⟨(max n 0).toNat, by omega⟩
  have hlo : Hid ((lo : Int) = max n 0) := hlo0
  have hlW : lo ≤ W := by omega
  clear hlo0
  by_cases hneg : n < 0
  all_goals
    go_enter Try.func9, Try.ntmps9
    go_wp2
    go_loop [7] (fun i => ∃ k : Nat, i = .int .i64 (k : Int) ∧ lo ≤ k ∧ k ≤ W ∧ ∀ l, lo ≤ l → l < k → zs.getD (W + l) 0 = 0) (fun i => W - (intOf i).toNat)
    case atStart =>
      have := hlo.out
      exact ⟨lo, by congr 1; omega, by omega, by omega, fun l h1 h2 => by omega⟩
    case round =>
      obtain ⟨k, rfl, hk1, hk2, hk3⟩ := hrel
      by_cases hlt : k < W
      · have hcell := hz (W + k) (by omega)
        by_cases h0 : zs[W + k]?.getD 0 = 0
        · have h0' : (zs[W + k]?.getD 0 == 0) = true := by simpa using h0
          have H0 : Hid (zs[W + k]?.getD 0 = 0) := h0
          clear h0
          go_wp2
          go_round
          case rel =>
            refine ⟨k + 1, by go_num, by omega, by omega, fun l h1 h2 => ?_⟩
            by_cases hl : l < k
            · exact hk3 l h1 hl
            · obtain rfl : l = k := by omega
              simpa using H0.out
          case measure => simp [intOf]; omega
        · have h0' : (zs[W + k]?.getD 0 == 0) = false := by simpa using h0
          go_wp2
          go_ret
          exact ⟨SaysIf.no, rfl⟩
      · have hall : ∀ i : Nat, n ≤ (i : Int) → i < W → zs.getD (W + i) 0 = 0 := fun i h1 h2 => hk3 i (by have := hlo.out; omega) (by omega)
        clear hk3
        go_wp2
        go_loop [8] (fun i => ∃ k : Nat, i = .int .i64 (k : Int) ∧ 1 ≤ k ∧ ∀ l, 1 ≤ l → l < k → zs.getD l 0 = max (zs.getD (2 * l) 0) (zs.getD (2 * l + 1) 0)) (fun i => W - (intOf i).toNat)
        case atStart => exact ⟨1, rfl, by omega, fun l h1 h2 => by omega⟩
        case round =>
          obtain ⟨j, rfl, hj1, hj2⟩ := hrel
          by_cases hjW : j < W
          · have c1 := hz (2 * j) (by omega)
            have c2 := hz (2 * j + 1) (by omega)
            have c3 := hz j (by omega)
            have step : zs[j]?.getD 0 = max (zs[2 * j]?.getD 0) (zs[2 * j + 1]?.getD 0) → ∀ l, 1 ≤ l → l < j + 1 → zs.getD l 0 = max (zs.getD (2 * l) 0) (zs.getD (2 * l + 1) 0) := by
              intro he l h1 h2
              by_cases hl : l < j
              · exact hj2 l h1 hl
              · obtain rfl : l = j := by omega
                simpa using he
            clear hj2
            by_cases hgt : zs[2 * j]?.getD 0 < zs[2 * j + 1]?.getD 0
            · by_cases he : zs[j]?.getD 0 = zs[2 * j + 1]?.getD 0
              · have he' : (zs[j]?.getD 0 == zs[2 * j + 1]?.getD 0) = true := by simpa using he
                have st := step (by omega)
                clear step he
                go_wp2
                go_round
                case rel => exact ⟨j + 1, by go_num, by omega, st⟩
                case measure => simp [intOf]; omega
              · have he' : (zs[j]?.getD 0 == zs[2 * j + 1]?.getD 0) = false := by simpa using he
                clear step
                go_wp2
                go_ret
                exact ⟨SaysIf.no, rfl⟩
            · by_cases he : zs[j]?.getD 0 = zs[2 * j]?.getD 0
              · have he' : (zs[j]?.getD 0 == zs[2 * j]?.getD 0) = true := by simpa using he
                have st := step (by omega)
                clear step he
                go_wp2
                go_round
                case rel => exact ⟨j + 1, by go_num, by omega, st⟩
                case measure => simp [intOf]; omega
              · have he' : (zs[j]?.getD 0 == zs[2 * j]?.getD 0) = false := by simpa using he
                clear step
                go_wp2
                go_ret
                exact ⟨SaysIf.no, rfl⟩
          · go_wp2
            go_ret
            refine ⟨SaysIf.yes ⟨W, rfl, hn, hall, ?_⟩, rfl⟩
            rcases HP.out with h | ⟨h, hh⟩
            · exact .inl h
            · exact .inr ⟨h, hh, ⟨fun l h1 h2 => hj2 l h1 (by omega)⟩⟩
/-- A slice of int64 as the laws meet it: empty (nil or not), or over cells that hold zs. -/
def RowAt (w : World) (a : Option Addr) (len : Nat) (zs : List Int) : Prop :=
  len = 0 ∨ ∃ b off, a = some ⟨b, off, none⟩ ∧ ∀ j, j < len → w.cell? ⟨b, off + j, none⟩ = some (.int .i64 (zs.getD j 0))

theorem wf_zero (a : Option Addr) (cap : Nat) (n : Int) (zs : List Int) (w : World) :
    Calls Try.prog 9 #[.slice a 0 cap, .int .i64 n] w fun e w' => SaysIf e (WellFormed zs 0 n) ∧ w' = w := by
  have hand := and_zero
  by_cases hpos : 0 < n
  · go_enter Try.func9, Try.ntmps9
    go_wp2
    go_ret
    exact ⟨SaysIf.no, rfl⟩
  · have HF : Hid (WellFormed zs 0 n) := ⟨0, rfl, by omega, fun i _ h => by omega, .inl rfl⟩
    by_cases hneg : n < 0
    · go_enter Try.func9, Try.ntmps9
      go_wp2
      go_loop [7] (fun i => i = .int .i64 0) (fun _ => 0)
      case atStart => rfl
      case round =>
        subst hrel
        go_wp2
        go_loop [8] (fun i => i = .int .i64 1) (fun _ => 0)
        case atStart => rfl
        case round =>
          subst hrel
          go_wp2
          go_ret
          exact ⟨SaysIf.yes HF.out, rfl⟩
    · obtain rfl : n = 0 := by omega
      go_enter Try.func9, Try.ntmps9
      go_wp2
      go_loop [7] (fun i => i = .int .i64 0) (fun _ => 0)
      case atStart => rfl
      case round =>
        subst hrel
        go_wp2
        go_loop [8] (fun i => i = .int .i64 1) (fun _ => 0)
        case atStart => rfl
        case round =>
          subst hrel
          go_wp2
          go_ret
          exact ⟨SaysIf.yes HF.out, rfl⟩

theorem wf_any (a : Option Addr) (len cap : Nat) (n : Int) (zs : List Int) (w : World) (hl : len ≤ 131072) (row : RowAt w a len zs) :
    Calls Try.prog 9 #[.slice a len cap, .int .i64 n] w fun e w' => SaysIf e (WellFormed zs len n) ∧ w' = w := by
  rcases row with rfl | ⟨b, off, rfl, hz⟩
  · exact wf_zero a cap n zs w
  by_cases hodd : len % 2 = 1
  · have ho : ((len : Int) % 2 == 0) = false := by simp; omega
    go_enter Try.func9, Try.ntmps9
    go_wp2
    go_ret
    exact ⟨SaysIf.no, rfl⟩
  obtain ⟨W, rfl⟩ : ∃ W, len = 2 * W := ⟨len / 2, by omega⟩
  clear hodd
  by_cases h0 : W = 0
  · subst h0; exact wf_zero _ cap n zs w
  have hand := and_pred W (by omega) (by omega)
  by_cases hp : W &&& (W - 1) = 0
  · rw [hp] at hand
    have hand' : (bits .and .i64 (W : Int) ((W : Int) - 1) == 0) = true := by rw [hand]; rfl
    by_cases hn : n ≤ (W : Int)
    · exact wf_pow b off W cap n zs w (by omega) hn hand' (.inr (Tree.pow_of_and W (by omega) hp)) hz
    · clear hand
      go_enter Try.func9, Try.ntmps9
      go_wp2
      go_ret
      exact ⟨SaysIf.no, rfl⟩
  · have hand' : (bits .and .i64 (W : Int) ((W : Int) - 1) == 0) = false := by rw [hand]; simp; omega
    clear hand
    go_enter Try.func9, Try.ntmps9
    go_wp2
    go_ret
    exact ⟨SaysIf.no, rfl⟩

/-- WHAT zzRevisionInDomain SAYS YES TO. -/
def InDomain (zs : List Int) (W : Nat) (n r : Int) : Prop := 0 ≤ r ∨ ∀ i : Nat, (i : Int) < n → r < zs.getD (W + i) 0

theorem dom_any (a : Option Addr) (W cap : Nat) (n r : Int) (zs : List Int) (w : World) (hW : W ≤ 65536) (hn : n ≤ (W : Int)) (row : RowAt w a (2 * W) zs) :
    Calls Try.prog 10 #[.slice a (2 * W) cap, .int .i64 n, .int .i64 r] w fun e w' => SaysIf e (InDomain zs W n r) ∧ w' = w := by
  by_cases hr : 0 ≤ r
  · have HF : Hid (InDomain zs W n r) := .inl hr
    go_enter Try.func10, Try.ntmps10
    go_wp2
    go_ret
    exact ⟨SaysIf.yes HF.out, rfl⟩
  by_cases hn0 : n ≤ 0
  · have HF : Hid (InDomain zs W n r) := .inr (fun i hi => by omega)
    go_enter Try.func10, Try.ntmps10
    go_wp2
    go_loop [8] (fun i => i = .int .i64 0) (fun _ => 0)
    case atStart => rfl
    case round =>
      subst hrel
      go_wp2
      go_ret
      exact ⟨SaysIf.yes HF.out, rfl⟩
  obtain ⟨b, off, rfl, hz⟩ : ∃ b off, a = some ⟨b, off, none⟩ ∧ ∀ j, j < 2 * W → w.cell? ⟨b, off + j, none⟩ = some (.int .i64 (zs.getD j 0)) := by
    rcases row with h | h
    · omega
    · exact h
  clear row
  go_enter Try.func10, Try.ntmps10
  go_wp2
  go_loop [8] (fun i => ∃ k : Nat, i = .int .i64 (k : Int) ∧ (k : Int) ≤ n ∧ ∀ l, l < k → r < zs.getD (W + l) 0) (fun i => W - (intOf i).toNat)
  case atStart => exact ⟨0, rfl, by omega, fun l h => by omega⟩
  case round =>
    obtain ⟨k, rfl, hk, hall⟩ := hrel
    by_cases hlt : (k : Int) < n
    · have hc := hz (W + k) (by omega)
      by_cases hle : zs[W + k]?.getD 0 ≤ r
      · clear hall
        go_wp2
        go_ret
        exact ⟨SaysIf.no, rfl⟩
      · go_wp2
        go_round
        case rel =>
          refine ⟨k + 1, by go_num, by omega, fun l h => ?_⟩
          by_cases hl : l < k
          · exact hall l hl
          · obtain rfl : l = k := by omega
            simp; omega
        case measure => simp [intOf]; omega
    · have HF : Hid (InDomain zs W n r) := .inr (fun i hi => hall i (by omega))
      clear hall
      go_wp2
      go_ret
      exact ⟨SaysIf.yes HF.out, rfl⟩
end Go.Proofs.Qxb6603979a
