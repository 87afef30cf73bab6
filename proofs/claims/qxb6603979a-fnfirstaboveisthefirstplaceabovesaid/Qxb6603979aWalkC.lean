/-
  ZZRevisionTreeFirstAbove and the laws' small guards.
-/
import Derived.Test.Qxb6603979aWalkB
import Derived.Test.Qxb6603979aCopy
namespace Go.Proofs.Qxb6603979a
open Go.ChangeShapes Go.WideShapes Go.ChangeAt Go.RowKit

/-- WHAT firstAbove ANSWERS over a well-formed tree. -/
def Answer (zs : List Int) (W : Nat) (n f r x : Int) : Prop :=
  ((f < 0 ∨ n ≤ f) ∧ x = -1) ∨ ∃ m : Nat, f = (m : Int) ∧ f < n ∧ Tree.Found (fun j => zs.getD j 0) W m r x
def Answers (e : Ending) (zs : List Int) (W : Nat) (n f r : Int) : Prop := ∃ x, e = .returned (.int .i64 x) ∧ Answer zs W n f r x

theorem zz_out (a : Option Addr) (len cap W : Nat) (n f r : Int) (zs : List Int) (w : World) (ho : f < 0 ∨ n ≤ f) :
    Calls Try.prog 11 #[.slice a len cap, .int .i64 n, .int .i64 f, .int .i64 r] w fun e w' => Answers e zs W n f r ∧ Below w.heap.size w w' := by
  have HA : Hid (Answer zs W n f r (-1)) := .inl ⟨ho, rfl⟩
  go_enter Try.func11, Try.ntmps11
  go_wp2_with (go_at_call 32; refine (fa_out w.heap.size a len cap n f r _ (by simp) (by simp) ho).mono ?_; rintro e w' ⟨rfl, rfl⟩)
  go_ret
  exact ⟨⟨-1, rfl, HA.out⟩, (Below.refl _ _).alloc (Nat.le_refl _) _⟩

theorem zz_in (b off W cap h m : Nat) (n r : Int) (zs : List Int) (w : World) (hW : W ≤ 65536) (HW : Hid (W = 2 ^ h)) (hn : n ≤ (W : Int)) (hm : (m : Int) < n) (s : Tree.Shape (fun j => zs.getD j 0) h)
    (hz : ∀ j, j < 2 * W → w.cell? ⟨b, off + j, none⟩ = some (.int .i64 (zs.getD j 0))) :
    Calls Try.prog 11 #[.slice (some ⟨b, off, none⟩) (2 * W) cap, .int .i64 n, .int .i64 m, .int .i64 r] w fun e w' => Answers e zs W n m r ∧ Below w.heap.size w w' := by
  have hz' : ∀ o, ∀ j, j < 2 * W → (w.alloc o).cell? ⟨b, off + j, none⟩ = some (.int .i64 (zs.getD j 0)) := fun o j hj => by
    rw [World.cell?_alloc_lt (h := World.block_lt_of_cell? _ _ (hz j hj))]; exact hz j hj
  go_enter Try.func11, Try.ntmps11
  go_wp2_with (go_at_call 32; refine (fa_in w.heap.size b off W cap h m n r zs _ HW hW (by simp) (by simp) (hz' _) hm hn s).mono ?_; rintro e w' ⟨⟨x, rfl, hx⟩, rfl⟩)
  go_ret
  exact ⟨⟨x, rfl, .inr ⟨m, rfl, hm, hx⟩⟩, (Below.refl _ _).alloc (Nat.le_refl _) _⟩

theorem zz_any (a : Option Addr) (W cap : Nat) (n f r : Int) (zs : List Int) (w : World) (hl : 2 * W ≤ 131072) (wf : WellFormed zs (2 * W) n) (row : RowAt w a (2 * W) zs) :
    Calls Try.prog 11 #[.slice a (2 * W) cap, .int .i64 n, .int .i64 f, .int .i64 r] w fun e w' => Answers e zs W n f r ∧ Below w.heap.size w w' := by
  by_cases ho : f < 0 ∨ n ≤ f
  · exact zz_out a _ cap W n f r zs w ho
  · obtain ⟨W', hWW, hn, hpad, hsh⟩ := wf
    obtain rfl : W = W' := by omega
    obtain ⟨m, rfl⟩ : ∃ m : Nat, f = (m : Int) := ⟨f.toNat, by omega⟩
    rcases hsh with rfl | ⟨h, HW, s⟩
    · omega
    · rcases row with h0 | ⟨b, off, rfl, hz⟩
      · omega
      · exact zz_in b off W cap h m n r zs w (by omega) HW hn (by omega) s hz

theorem bytes13 (a : Option Addr) (len cap : Nat) (n f r s : Int) (w : World) (hl : len ≤ maxLen) :
    Calls Try.prog 13 #[.slice a len cap, .int .i64 n, .int .i64 f, .int .i64 r, .int .i64 s] w fun e w' => SaysIf e True ∧ w' = w := by
  unfold maxLen at hl
  by_cases h : len ≤ 1048576
  · go_enter Try.func13, Try.ntmps13
    go_wp2
    go_ret
    exact ⟨SaysIf.yes trivial, rfl⟩
  · go_enter Try.func13, Try.ntmps13
    go_wp2
    go_ret
    exact ⟨SaysIf.no, rfl⟩
theorem bytes8 (a : Option Addr) (len cap : Nat) (n f r : Int) (w : World) (hl : len ≤ maxLen) :
    Calls Try.prog 8 #[.slice a len cap, .int .i64 n, .int .i64 f, .int .i64 r] w fun e w' => SaysIf e True ∧ w' = w := by
  unfold maxLen at hl
  by_cases h : len ≤ 1048576
  · go_enter Try.func8, Try.ntmps8
    go_wp2
    go_ret
    exact ⟨SaysIf.yes trivial, rfl⟩
  · go_enter Try.func8, Try.ntmps8
    go_wp2
    go_ret
    exact ⟨SaysIf.no, rfl⟩
end Go.Proofs.Qxb6603979a
