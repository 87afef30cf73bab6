/-
  THE TWO firstAbove LAWS, WALKED.
-/
import Derived.Test.Qxb6603979aWalkC
namespace Go.Proofs.Qxb6603979a
open Go.ChangeShapes Go.WideShapes Go.ChangeAt Go.RowKit

/-! ### the plain law -/
theorem ans_first {zs : List Int} {W : Nat} {n f r x : Int} (ha : Answer zs W n f r x) (wf : WellFormed zs (2 * W) n) (hd : InDomain zs W n r) :
    (x = -1 ∧ (0 ≤ f → ∀ i : Nat, f ≤ (i : Int) → (i : Int) < n → zs.getD (W + i) 0 ≤ r)) ∨
    ∃ i : Nat, x = (i : Int) ∧ 0 ≤ f ∧ f ≤ (i : Int) ∧ (i : Int) < n ∧ r < zs.getD (W + i) 0 ∧ ∀ l : Nat, f ≤ (l : Int) → l < i → zs.getD (W + l) 0 ≤ r := by
  obtain ⟨W', hWW, hn, hpad, _⟩ := wf
  obtain rfl : W = W' := by omega
  rcases ha with ⟨ho, rfl⟩ | ⟨m, rfl, hm, ⟨rfl, hall⟩ | ⟨i, rfl, h1, h2, h3, h4⟩⟩
  · exact .inl ⟨rfl, fun h0 i h1 h2 => by omega⟩
  · exact .inl ⟨rfl, fun _ i h1 h2 => hall i (by omega) (by omega)⟩
  · refine .inr ⟨i, rfl, by omega, by omega, ?_, h3, fun l h5 h6 => h4 l (by omega) h6⟩
    by_cases hi : (i : Int) < n
    · exact hi
    · exfalso
      have hp := hpad i (by omega) h2
      rcases hd with hd | hd
      · simp only [] at h3; omega
      · have h5 := hd m hm
        have h6 := h4 m (Nat.le_refl _) (by omega)
        simp only [] at h6
        omega

theorem never {zs : List Int} {W : Nat} {n f low high x y : Int} (hl : low ≤ high) (wf : WellFormed zs (2 * W) n) (dl : InDomain zs W n low) (dh : InDomain zs W n high) (ax : Answer zs W n f low x) (ay : Answer zs W n f high y) :
    (x = -1 ∨ (0 ≤ x ∧ f ≤ x ∧ x < n)) ∧ (y = -1 ∨ (0 ≤ y ∧ f ≤ y ∧ y < n ∧ 0 ≤ x ∧ x ≤ y)) := by
  have hx := ans_first ax wf dl
  have hy := ans_first ay wf dh
  refine ⟨?_, ?_⟩
  · rcases hx with ⟨h, _⟩ | ⟨i, rfl, h0, h1, h2, _⟩
    · exact .inl h
    · exact .inr ⟨by omega, h1, h2⟩
  · rcases hy with ⟨h, _⟩ | ⟨j, rfl, g0, g1, g2, g3, _⟩
    · exact .inl h
    · refine .inr ⟨by omega, g1, g2, ?_⟩
      rcases hx with ⟨rfl, hx⟩ | ⟨i, rfl, h0, h1, h2, h3, h4⟩
      · have := hx g0 j g1 g2; omega
      · refine ⟨by omega, ?_⟩
        by_cases hij : j < i
        · have := h4 j g1 hij; omega
        · omega

theorem Try.info2 : (Try.prog.info? 2).map (fun i => (i.zero, i.size, i.bytes)) = some (some (.int .i64 0), 1, 8) := by kernel_rfl

theorem RowAt.later {w w' : World} {a : Option Addr} {len : Nat} {zs : List Int} (row : RowAt w a len zs) (hb : Below w.heap.size w w') : RowAt w' a len zs := by
  rcases row with h | ⟨b, off, ha, hz⟩
  · exact .inl h
  · exact .inr ⟨b, off, ha, fun j hj => cell_later hb (hz j hj)⟩

/-- The tail of the law: behind the guards, before the copy. -/
theorem never_tail (x y n f : Int) (h1 : x = -1 ∨ (0 ≤ x ∧ f ≤ x ∧ x < n)) (h2 : y = -1 ∨ (0 ≤ y ∧ f ≤ y ∧ y < n ∧ 0 ≤ x ∧ x ≤ y)) :
    (x = -1 ∧ y = -1) ∨ ((x != -1) = true ∧ ¬ x < f ∧ ¬ n ≤ x ∧ f ≤ x ∧ x < n ∧ y = -1) ∨
    ((x != -1) = true ∧ ¬ x < f ∧ ¬ n ≤ x ∧ f ≤ x ∧ x < n ∧ (y != -1) = true ∧ ¬ y < f ∧ ¬ n ≤ y ∧ f ≤ y ∧ y < n ∧ x ≤ y) := by
  rcases h2 with rfl | h2
  · rcases h1 with rfl | h1
    · exact .inl ⟨rfl, rfl⟩
    · exact .inr (.inl ⟨by simp; omega, by omega, by omega, by omega, by omega, rfl⟩)
  · rcases h1 with rfl | h1
    · omega
    · exact .inr (.inr ⟨by simp; omega, by omega, by omega, by omega, by omega, by simp; omega, by omega, by omega, by omega, by omega, by omega⟩)

theorem dom_len (a : Option Addr) (len W cap : Nat) (n r : Int) (zs : List Int) (w : World) (hl : len ≤ 131072) (hW : Hid (len = 2 * W)) (wf : WellFormed zs len n) (row : RowAt w a len zs) :
    Calls Try.prog 10 #[.slice a len cap, .int .i64 n, .int .i64 r] w fun e w' => SaysIf e (InDomain zs W n r) ∧ w' = w := by
  obtain rfl := hW.out
  obtain ⟨W', h1, h2, _⟩ := wf
  exact dom_any a W cap n r zs w (by omega) (by omega) row
theorem zz_len (a : Option Addr) (len W cap : Nat) (n f r : Int) (zs : List Int) (w : World) (hl : len ≤ 131072) (hW : Hid (len = 2 * W)) (wf : WellFormed zs len n) (row : RowAt w a len zs) :
    Calls Try.prog 11 #[.slice a len cap, .int .i64 n, .int .i64 f, .int .i64 r] w fun e w' => Answers e zs W n f r ∧ Below w.heap.size w w' := by
  obtain rfl := hW.out
  exact zz_any a W cap n f r zs w hl wf row

set_option maxHeartbeats 1000000 in
theorem never_walk (a : Option Addr) (len cap : Nat) (zs : List Int) (n f low high : Int) (w : World) (hm : len ≤ maxLen) (hnil : a = none → len = 0 ∧ cap = 0) (row : RowAt w a len zs)
    (ad : ∀ x, a = some x → ∀ j, j < len → w.cell? (x.add j) = some (.int .i64 (zs.getD j 0))) :
    Calls Try.prog 4 #[.slice a len cap, .int .i64 n, .int .i64 f, .int .i64 low, .int .i64 high] w fun e w' => e = .returned (.bool true) ∧ Below w.heap.size w w' := by
  have q22 : ∀ (w : World) (a : Option Addr) (n c n' c' : Nat), (binOp .neq 22 (.slice a n c) (.slice none n' c')).run Try.prog w = .ok (.bool (!a.isNone)) w := fun w a n c n' c' => run_neq_slice_nil_any w _ _ a n c n' c' Try.underlying22
  by_cases hl : len ≤ 131072
  · by_cases hlh : low ≤ high
    · go_enter Try.func4, Try.ntmps4
      go_wp2_with fail
      refine (bytes13 a len cap n f low high w hm).mono ?_
      rintro e w2 ⟨⟨ok, rfl, -⟩, hw⟩
      obtain rfl := hw.symm
      cases ok
      · go_wp2
        go_ret
        exact ⟨rfl, Below.refl _ _⟩
      go_wp2_with fail
      refine (wf_any a len cap n zs _ hl row).mono ?_
      rintro e w2 ⟨⟨ok, rfl, hwf⟩, hw⟩
      obtain rfl := hw.symm
      cases ok
      · go_wp2
        go_ret
        exact ⟨rfl, Below.refl _ _⟩
      have wf := hwf rfl
      clear hwf
      obtain ⟨W, hW⟩ : ∃ W, Hid (len = 2 * W) := by obtain ⟨W, h, _⟩ := wf; exact ⟨W, h⟩
      go_wp2_with fail
      refine (dom_len a len W cap n low zs _ hl hW wf row).mono ?_
      rintro e w2 ⟨⟨ok, rfl, hdl⟩, hw⟩
      obtain rfl := hw.symm
      cases ok
      · go_wp2
        go_ret
        exact ⟨rfl, Below.refl _ _⟩
      have dl : Hid (InDomain zs W n low) := hdl rfl
      clear hdl
      go_wp2_with fail
      refine (dom_len a len W cap n high zs _ hl hW wf row).mono ?_
      rintro e w2 ⟨⟨ok, rfl, hdh⟩, hw⟩
      obtain rfl := hw.symm
      cases ok
      · go_wp2
        go_ret
        exact ⟨rfl, Below.refl _ _⟩
      have HN : Hid (∀ x y, Answer zs W n f low x → Answer zs W n f high y → (x = -1 ∨ (0 ≤ x ∧ f ≤ x ∧ x < n)) ∧ (y = -1 ∨ (0 ≤ y ∧ f ≤ y ∧ y < n ∧ 0 ≤ x ∧ x ≤ y))) :=
        fun x y ax ay => never hlh (hW.out ▸ wf) dl.out (hdh rfl) ax ay
      clear hdh
      cases a with
      | none =>
        obtain ⟨rfl, rfl⟩ := hnil rfl
        go_wp2_with fail
        refine (zz_len none 0 W 0 n f low zs w hl hW wf row).mono ?_
        rintro e w3 ⟨⟨x1, rfl, ax⟩, hb3⟩
        go_wp2_with fail
        refine (zz_len none 0 W 0 n f high zs w3 hl hW wf (row.later hb3)).mono ?_
        rintro e w4 ⟨⟨x2, rfl, ay⟩, hb4⟩
        have HT := HN.out x1 x2 ax ay
        have hB : Below w.heap.size w w4 := hb3.trans (hb4.mono hb3.size)
        clear ax ay HN dl wf row
        rcases never_tail x1 x2 n f HT.1 HT.2 with ⟨rfl, rfl⟩ | ⟨t1, t2, t3, t4, t5, rfl⟩ | ⟨t1, t2, t3, t4, t5, t6, t7, t8, t9, t10, t11⟩
        all_goals
          clear HT
          go_wp2
          go_ret
          exact ⟨rfl, hB⟩
      | some x =>
        obtain ⟨W1, W2, hmk, hcp, hb2, hs2, hc2⟩ := copied (P := Try.prog) 22 2 .i64 8 Try.underlying22 Try.info2 x len cap zs (by omega) (by omega) _ (ad x rfl)
        have row2 : RowAt W2 (some ⟨w.heap.size, 0, none⟩) len zs := .inr ⟨_, _, rfl, fun j hj => by rw [Nat.zero_add]; exact hc2 j hj⟩
        clear hc2 hs2
        go_wp2_with fail
        refine (zz_len _ len W len n f low zs W2 hl hW wf row2).mono ?_
        rintro e w3 ⟨⟨x1, rfl, ax⟩, hb3⟩
        go_wp2_with fail
        refine (zz_len _ len W len n f high zs w3 hl hW wf (row2.later hb3)).mono ?_
        rintro e w4 ⟨⟨x2, rfl, ay⟩, hb4⟩
        have HT := HN.out x1 x2 ax ay
        have hB : Below w.heap.size w w4 := hb2.trans ((hb3.mono hb2.size).trans (hb4.mono (Nat.le_trans hb2.size hb3.size)))
        clear ax ay HN dl wf row
        rcases never_tail x1 x2 n f HT.1 HT.2 with ⟨rfl, rfl⟩ | ⟨t1, t2, t3, t4, t5, rfl⟩ | ⟨t1, t2, t3, t4, t5, t6, t7, t8, t9, t10, t11⟩
        all_goals
          clear HT
          go_wp2
          go_ret
          exact ⟨rfl, hB⟩
    · go_enter Try.func4, Try.ntmps4
      go_wp2_with fail
      refine (bytes13 a len cap n f low high w hm).mono ?_
      rintro e w2 ⟨⟨ok, rfl, -⟩, hw⟩
      obtain rfl := hw.symm
      cases ok
      · go_wp2
        go_ret
        exact ⟨rfl, Below.refl _ _⟩
      go_wp2
      go_ret
      exact ⟨rfl, Below.refl _ _⟩
  · go_enter Try.func4, Try.ntmps4
    go_wp2_with fail
    refine (bytes13 a len cap n f low high w hm).mono ?_
    rintro e w2 ⟨⟨ok, rfl, -⟩, hw⟩
    obtain rfl := hw.symm
    cases ok
    · go_wp2
      go_ret
      exact ⟨rfl, Below.refl _ _⟩
    go_wp2
    go_ret
    exact ⟨rfl, Below.refl _ _⟩
end Go.Proofs.Qxb6603979a
