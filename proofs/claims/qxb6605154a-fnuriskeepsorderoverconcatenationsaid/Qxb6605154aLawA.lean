/-
  THE FIRST URIs LAW, WALKED.
-/
import Derived.Test.Qxb6605154aWalkB
namespace Go.Proofs.Qxb6605154a
open Go.ChangeShapes Go.WideShapes Go.ChangeAt Go.RowKit

theorem dr3 (w : World) (q n m : Nat) : ∃ x, ((w.drewN q).drewN n).drewN m = w.drewN x := ⟨q + (n + m), by rw [World.drewN_drewN, World.drewN_drewN]⟩
/-- What a law is told of a slice of registrations that came in. -/
structure PairsIn (w : World) (a : Option Addr) (N : Nat) (I U : Nat → ByteArray) : Prop where
  fits : N ≤ maxLen
  nil : a = none → N = 0
  short : Short N I U
  row : PairsAt w a N I U

set_option maxRecDepth 100000 in
set_option maxHeartbeats 2000000 in
theorem column_walk (a : Option Addr) (N cap : Nat) (I U : Nat → ByteArray) (w : World) (gi : PairsIn w a N I U) :
    Calls Try.prog 3 #[.slice a N cap] w fun e w' => e = .returned (.bool true) ∧ Below w.heap.size w w' := by
  have hNm := gi.fits
  unfold maxLen at hNm
  have q28 : ∀ (w : World) (a : Option Addr) (n c n' c' : Nat), (binOp .eql 28 (.slice a n c) (.slice none n' c')).run Try.prog w = .ok (.bool a.isNone) w := fun w a n c n' c' => Lib.run_eql_slice_nil w _ _ a n c n' c' Try.underlying28
  go_enter Try.func3, Try.ntmps3
  go_wp2_with fail
  refine (bytes7 a N cap I U w gi.fits gi.short gi.row).mono ?_
  rintro e w2 ⟨⟨ok, rfl, -⟩, hw⟩
  obtain rfl := hw.symm
  cases ok
  · go_wp2
    go_ret
    exact ⟨rfl, Below.refl _ _⟩
  by_cases hN : N ≤ 32768
  · go_wp2_with fail
    refine (count8 a N cap I U w hN gi.short gi.row).mono ?_
    rintro e w1 ⟨⟨t, rfl, ht0, ht1⟩, q, rfl⟩
    by_cases ht : 1048576 < t
    · go_wp2
      go_ret
      exact ⟨rfl, below_drewN (Below.refl _ _) _⟩
    have HB1 : Hid (Below w.heap.size w (w.drewN q)) := below_drewN (Below.refl _ _) _
    have G1 : Hid (PairsAt (w.drewN q) a N I U) := gi.row.drewN q
    obtain ⟨w1, hw1⟩ : ∃ w1, w.drewN q = w1 := ⟨_, rfl⟩
    rw [hw1] at HB1 G1 ⊢
    clear hw1
    go_wp2_with fail
    refine (store9 a N cap I U w1 hN gi.nil G1.out).mono ?_
    rintro e w2 ⟨⟨a2, rfl, p2⟩, hb2⟩
    have P2 : Hid (PairsAt w2 a2 N I U) := p2
    have HB2 : Hid (Below w.heap.size w w2) := HB1.out.trans (hb2.mono HB1.out.size)
    clear p2 hb2 HB1 G1
    go_wp2_with fail
    refine (uris10 a2 N N I U w2 hN P2.out).mono ?_
    rintro e w3 ⟨rfl, hc3, hb3⟩
    have HC3 : Hid (∀ c, c < N → w3.cell? ⟨w2.heap.size, c, none⟩ = some (.string (U c))) := hc3
    have HB3 : Hid (Below w.heap.size w w3) := HB2.out.trans (hb3.mono HB2.out.size)
    have P3 : Hid (PairsAt w3 a2 N I U) := P2.out.later hb3
    clear hc3 hb3 HB2 P2
    go_wp2
    go_loopw [5] (fun i wr => ∃ k : Nat, i = .int .i64 (k : Int) ∧ k ≤ N ∧ ∃ q, wr = w3.drewN q) (fun i _ => N - (intOf i).toNat)
    case atStart => exact ⟨0, rfl, Nat.zero_le _, 0, rfl⟩
    case round =>
      obtain ⟨k, rfl, hk, q, rfl⟩ := hrel
      by_cases hlt : k < N
      · obtain ⟨b, off, rfl, hz⟩ := gi.row.pos (by omega)
        obtain ⟨b2, off2, rfl, hz2⟩ := P3.out.pos (by omega)
        have c0 := HC3.out k hlt
        have c1 := cell_later HB3.out (hz k hlt).1
        have c2 := cell_later HB3.out (hz k hlt).2
        have c3 := (hz2 k hlt).1
        have c4 := (hz2 k hlt).2
        have hki : (k : Int) < (N : Int) := by omega
        clear hz hz2
        go_wp2
        go_quiet (fail)
        go_wp2
        go_quiet (fail)
        go_wp2
        go_roundw
        case rel => exact ⟨k + 1, by go_num, by omega, by first | exact ⟨_, rfl⟩ | exact dr2 _ _ _ | exact dr3 _ _ _ _⟩
        case measure => simp [intOf]; omega
      · go_wp2
        go_ret
        exact ⟨rfl, below_drewN HB3.out _⟩
  · go_wp2
    go_ret
    exact ⟨rfl, Below.refl _ _⟩
end Go.Proofs.Qxb6605154a
