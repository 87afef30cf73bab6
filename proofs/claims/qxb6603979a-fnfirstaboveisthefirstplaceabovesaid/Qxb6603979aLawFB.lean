/-
  THE SECOND firstAbove LAW: against the plain scan.
-/
import Derived.Test.Qxb6603979aLawFA
namespace Go.Proofs.Qxb6603979a
open Go.ChangeShapes Go.WideShapes Go.ChangeAt Go.RowKit

/-- THE FIRST PLACE ABOVE r, from place f on; -1 for none. -/
def First (zs : List Int) (W : Nat) (n f r x : Int) : Prop :=
  (x = -1 ∧ (0 ≤ f → ∀ i : Nat, f ≤ (i : Int) → (i : Int) < n → zs.getD (W + i) 0 ≤ r)) ∨
    ∃ i : Nat, x = (i : Int) ∧ 0 ≤ f ∧ f ≤ (i : Int) ∧ (i : Int) < n ∧ r < zs.getD (W + i) 0 ∧ ∀ l : Nat, f ≤ (l : Int) → l < i → zs.getD (W + l) 0 ≤ r
theorem first_unique {zs : List Int} {W : Nat} {n f r x y : Int} (hx : First zs W n f r x) (hy : First zs W n f r y) : x = y := by
  rcases hx with ⟨rfl, hx⟩ | ⟨i, rfl, h0, h1, h2, h3, h4⟩
  · rcases hy with ⟨rfl, _⟩ | ⟨j, rfl, g0, g1, g2, g3, g4⟩
    · rfl
    · have := hx g0 j g1 g2; omega
  · rcases hy with ⟨rfl, hy⟩ | ⟨j, rfl, g0, g1, g2, g3, g4⟩
    · have := hy h0 i h1 h2; omega
    · by_cases hij : i < j
      · have := g4 i h1 hij; omega
      · by_cases hji : j < i
        · have := h4 j g1 hji; omega
        · omega
def IsFirst (e : Ending) (zs : List Int) (W : Nat) (n f r : Int) : Prop := ∃ x, e = .returned (.int .i64 x) ∧ First zs W n f r x
theorem IsFirst.mk {zs : List Int} {W : Nat} {n f r x : Int} (h : First zs W n f r x) : IsFirst (.returned (.int .i64 x)) zs W n f r := ⟨x, rfl, h⟩

set_option maxHeartbeats 400000 in
theorem model_any (a : Option Addr) (W cap : Nat) (n f r : Int) (zs : List Int) (w : World) (hW : W ≤ 65536) (hn : n ≤ (W : Int)) (row : RowAt w a (2 * W) zs) :
    Calls Try.prog 12 #[.slice a (2 * W) cap, .int .i64 n, .int .i64 f, .int .i64 r] w fun e w' => IsFirst e zs W n f r ∧ w' = w := by
  by_cases hf : f < 0
  · have HF : Hid (First zs W n f r (-1)) := .inl ⟨rfl, fun h => by omega⟩
    go_enter Try.func12, Try.ntmps12
    go_wp2
    go_ret
    exact ⟨IsFirst.mk HF.out, rfl⟩
  by_cases hnf : n ≤ f
  · have HF : Hid (First zs W n f r (-1)) := .inl ⟨rfl, fun _ i h1 h2 => by omega⟩
    go_enter Try.func12, Try.ntmps12
    go_wp2
    go_loop [10] (fun i => i = .int .i64 f) (fun _ => 0)
    case atStart => rfl
    case round =>
      subst hrel
      go_wp2
      go_ret
      exact ⟨IsFirst.mk HF.out, rfl⟩
  obtain ⟨m, rfl⟩ : ∃ m : Nat, f = (m : Int) := ⟨f.toNat, by omega⟩
  obtain ⟨b, off, rfl, hz⟩ : ∃ b off, a = some ⟨b, off, none⟩ ∧ ∀ j, j < 2 * W → w.cell? ⟨b, off + j, none⟩ = some (.int .i64 (zs.getD j 0)) := by
    rcases row with h | h
    · omega
    · exact h
  clear row
  go_enter Try.func12, Try.ntmps12
  go_wp2
  go_loop [10] (fun i => ∃ k : Nat, i = .int .i64 (k : Int) ∧ m ≤ k ∧ (k : Int) ≤ n ∧ ∀ l : Nat, m ≤ l → l < k → zs.getD (W + l) 0 ≤ r) (fun i => W - (intOf i).toNat)
  case atStart => exact ⟨m, rfl, Nat.le_refl _, by omega, fun l h1 h2 => by omega⟩
  case round =>
    obtain ⟨k, rfl, hk1, hk2, hall⟩ := hrel
    by_cases hlt : (k : Int) < n
    · have hc := hz (W + k) (by omega)
      by_cases hgt : r < zs[W + k]?.getD 0
      · have HF : Hid (First zs W n m r (k : Int)) := .inr ⟨k, rfl, by omega, by omega, hlt, by simpa using hgt, fun l h1 h2 => hall l (by omega) h2⟩
        clear hall
        go_wp2
        go_ret
        exact ⟨IsFirst.mk HF.out, rfl⟩
      · go_wp2
        go_round
        case rel =>
          refine ⟨k + 1, by go_num, by omega, by omega, fun l h1 h2 => ?_⟩
          by_cases hl : l < k
          · exact hall l h1 hl
          · obtain rfl : l = k := by omega
            simp; omega
        case measure => simp [intOf]; omega
    · have HF : Hid (First zs W n m r (-1)) := .inl ⟨rfl, fun _ i h1 h2 => hall i (by omega) (by omega)⟩
      clear hall
      go_wp2
      go_ret
      exact ⟨IsFirst.mk HF.out, rfl⟩
theorem model_len (a : Option Addr) (len W cap : Nat) (n f r : Int) (zs : List Int) (w : World) (hl : len ≤ 131072) (hW : Hid (len = 2 * W)) (wf : WellFormed zs len n) (row : RowAt w a len zs) :
    Calls Try.prog 12 #[.slice a len cap, .int .i64 n, .int .i64 f, .int .i64 r] w fun e w' => IsFirst e zs W n f r ∧ w' = w := by
  obtain rfl := hW.out
  obtain ⟨W', h1, h2, _⟩ := wf
  exact model_any a W cap n f r zs w (by omega) (by omega) row

set_option maxHeartbeats 1000000 in
theorem first_walk (a : Option Addr) (len cap : Nat) (zs : List Int) (n f r : Int) (w : World) (hm : len ≤ maxLen) (hnil : a = none → len = 0 ∧ cap = 0) (row : RowAt w a len zs)
    (ad : ∀ x, a = some x → ∀ j, j < len → w.cell? (x.add j) = some (.int .i64 (zs.getD j 0))) :
    Calls Try.prog 3 #[.slice a len cap, .int .i64 n, .int .i64 f, .int .i64 r] w fun e w' => e = .returned (.bool true) ∧ Below w.heap.size w w' := by
  have q22 : ∀ (w : World) (a : Option Addr) (n c n' c' : Nat), (binOp .neq 22 (.slice a n c) (.slice none n' c')).run Try.prog w = .ok (.bool (!a.isNone)) w := fun w a n c n' c' => run_neq_slice_nil_any w _ _ a n c n' c' Try.underlying22
  by_cases hl : len ≤ 131072
  · go_enter Try.func3, Try.ntmps3
    go_wp2_with fail
    refine (bytes8 a len cap n f r w hm).mono ?_
    rintro e w2 ⟨⟨ok, rfl, -⟩, hw⟩
    obtain rfl := hw.symm
    cases ok
    · go_wp2
      go_ret
      exact ⟨rfl, Below.refl _ _⟩
    go_wp2_with fail
    refine (wf_any a len cap n zs _ hl row).mono ?_
    rintro e w2 ⟨⟨ok, rfl, hwf⟩, hw⟩
    obtain rfl := hw.symm
    cases ok
    · go_wp2
      go_ret
      exact ⟨rfl, Below.refl _ _⟩
    have wf := hwf rfl
    clear hwf
    obtain ⟨W, hW⟩ : ∃ W, Hid (len = 2 * W) := by obtain ⟨W, h, _⟩ := wf; exact ⟨W, h⟩
    go_wp2_with fail
    refine (dom_len a len W cap n r zs _ hl hW wf row).mono ?_
    rintro e w2 ⟨⟨ok, rfl, hdl⟩, hw⟩
    obtain rfl := hw.symm
    cases ok
    · go_wp2
      go_ret
      exact ⟨rfl, Below.refl _ _⟩
    have dl : Hid (InDomain zs W n r) := hdl rfl
    clear hdl
    have HN : Hid (∀ x, Answer zs W n f r x → First zs W n f r x) := fun x ax => ans_first ax (hW.out ▸ wf) dl.out
    cases a with
    | none =>
      obtain ⟨rfl, rfl⟩ := hnil rfl
      go_wp2_with fail
      refine (zz_len none 0 W 0 n f r zs w hl hW wf row).mono ?_
      rintro e w3 ⟨⟨x1, rfl, ax⟩, hb3⟩
      go_wp2_with fail
      refine (model_len none 0 W 0 n f r zs w3 hl hW wf (row.later hb3)).mono ?_
      rintro e w4 ⟨⟨x2, rfl, ay⟩, hw⟩
      obtain rfl := hw.symm
      obtain rfl := first_unique (HN.out x1 ax) ay
      go_wp2
      go_ret
      exact ⟨by simp, hb3⟩
    | some x =>
      obtain ⟨W1, W2, hmk, hcp, hb2, hs2, hc2⟩ := copied (P := Try.prog) 22 2 .i64 8 Try.underlying22 Try.info2 x len cap zs (by omega) (by omega) _ (ad x rfl)
      have row2 : RowAt W2 (some ⟨w.heap.size, 0, none⟩) len zs := .inr ⟨_, _, rfl, fun j hj => by rw [Nat.zero_add]; exact hc2 j hj⟩
      clear hc2 hs2
      go_wp2_with fail
      refine (zz_len _ len W len n f r zs W2 hl hW wf row2).mono ?_
      rintro e w3 ⟨⟨x1, rfl, ax⟩, hb3⟩
      go_wp2_with fail
      refine (model_len _ len W len n f r zs w3 hl hW wf (row2.later hb3)).mono ?_
      rintro e w4 ⟨⟨x2, rfl, ay⟩, hw⟩
      obtain rfl := hw.symm
      obtain rfl := first_unique (HN.out x1 ax) ay
      go_wp2
      go_ret
      exact ⟨by simp, hb2.trans (hb3.mono hb2.size)⟩
  · go_enter Try.func3, Try.ntmps3
    go_wp2_with fail
    refine (bytes8 a len cap n f r w hm).mono ?_
    rintro e w2 ⟨⟨ok, rfl, -⟩, hw⟩
    obtain rfl := hw.symm
    cases ok
    · go_wp2
      go_ret
      exact ⟨rfl, Below.refl _ _⟩
    go_wp2
    go_ret
    exact ⟨rfl, Below.refl _ _⟩
end Go.Proofs.Qxb6603979a
