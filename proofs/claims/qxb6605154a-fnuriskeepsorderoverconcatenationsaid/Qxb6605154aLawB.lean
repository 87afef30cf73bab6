/-
  THE SECOND URIs LAW, WALKED.
-/
import Derived.Test.Qxb6605154aWalkC
namespace Go.Proofs.Qxb6605154a
open Go.ChangeShapes Go.WideShapes Go.ChangeAt Go.RowKit

/-- Two columns, one behind the other. -/
def cat (N : Nat) (I J : Nat → ByteArray) : Nat → ByteArray := fun r => if r < N then I r else J (r - N)
theorem cat_left (N : Nat) (I J : Nat → ByteArray) (r : Nat) (h : r < N) : cat N I J r = I r := by unfold cat; rw [if_pos h]
theorem cat_right (N : Nat) (I J : Nat → ByteArray) (r : Nat) : cat N I J (N + r) = J r := by unfold cat; rw [if_neg (by omega)]; congr 1; omega

set_option maxRecDepth 100000 in
set_option maxHeartbeats 4000000 in
theorem concat_walk (a : Option Addr) (N cap : Nat) (I U : Nat → ByteArray) (b : Option Addr) (M cap' : Nat) (J V : Nat → ByteArray) (w : World) (gi : PairsIn w a N I U) (gj : PairsIn w b M J V) :
    Calls Try.prog 4 #[.slice a N cap, .slice b M cap'] w fun e w' => e = .returned (.bool true) ∧ Below w.heap.size w w' := by
  have hNm := gi.fits
  have hMm := gj.fits
  unfold maxLen at hNm hMm
  have q28 : ∀ (w : World) (a : Option Addr) (n c n' c' : Nat), (binOp .eql 28 (.slice a n c) (.slice none n' c')).run Try.prog w = .ok (.bool a.isNone) w := fun w a n c n' c' => Lib.run_eql_slice_nil w _ _ a n c n' c' Try.underlying28
  go_enter Try.func4, Try.ntmps4
  go_wp2_with fail
  refine (bytes11 a b N M cap cap' I U J V w gi.fits gj.fits gi.short gj.short gi.row gj.row).mono ?_
  rintro e w2 ⟨⟨ok, rfl, -⟩, hw⟩
  obtain rfl := hw.symm
  cases ok
  · go_wp2
    go_ret
    exact ⟨rfl, Below.refl _ _⟩
  by_cases hN : N ≤ 32768
  case neg =>
    go_wp2
    go_ret
    exact ⟨rfl, Below.refl _ _⟩
  by_cases hM : M ≤ 32768
  case neg =>
    go_wp2
    go_ret
    exact ⟨rfl, Below.refl _ _⟩
  by_cases hNM : N + M ≤ 32768
  case neg =>
    go_wp2
    go_ret
    exact ⟨rfl, Below.refl _ _⟩
  go_wp2_with fail
  refine (count8 a N cap I U w hN gi.short gi.row).mono ?_
  rintro e w1 ⟨⟨t, rfl, ht0, ht1⟩, q, rfl⟩
  by_cases ht : 1048576 < t
  · go_wp2
    go_ret
    exact ⟨rfl, below_drewN (Below.refl _ _) _⟩
  go_wp2_with fail
  refine (count8 b M cap' J V (w.drewN q) hM gj.short (gj.row.drewN q)).mono ?_
  rintro e w1 ⟨⟨s, rfl, hs0, hs1⟩, q', rfl⟩
  have HB1 : Hid (Below w.heap.size w ((w.drewN q).drewN q')) := below_drewN (below_drewN (Below.refl _ _) _) _
  have G1 : Hid (PairsAt ((w.drewN q).drewN q') a N I U) := (gi.row.drewN q).drewN q'
  have G2 : Hid (PairsAt ((w.drewN q).drewN q') b M J V) := (gj.row.drewN q).drewN q'
  obtain ⟨w1, hw1⟩ : ∃ w1, (w.drewN q).drewN q' = w1 := ⟨_, rfl⟩
  rw [hw1] at HB1 G1 G2 ⊢
  clear hw1
  by_cases hs : 1048576 < s
  · go_wp2
    go_ret
    exact ⟨rfl, HB1.out⟩
  by_cases hts : 1048576 < t + s
  · go_wp2
    go_ret
    exact ⟨rfl, HB1.out⟩
  go_wp2_with fail
  refine (store9 a N cap I U w1 hN gi.nil G1.out).mono ?_
  rintro e w2 ⟨⟨a2, rfl, p2⟩, hb2⟩
  have P2 : Hid (PairsAt w2 a2 N I U) := p2
  have G3 : Hid (PairsAt w2 b M J V) := G2.out.later hb2
  have HB2 : Hid (Below w.heap.size w w2) := HB1.out.trans (hb2.mono HB1.out.size)
  clear p2 hb2 HB1 G1 G2
  go_wp2_with fail
  refine (store9 b M cap' J V w2 hM gj.nil G3.out).mono ?_
  rintro e w3 ⟨⟨b2, rfl, p3⟩, hb3⟩
  have Q3 : Hid (PairsAt w3 b2 M J V) := p3
  have P3 : Hid (PairsAt w3 a2 N I U) := P2.out.later hb3
  have HB3 : Hid (Below w.heap.size w w3) := HB2.out.trans (hb3.mono HB2.out.size)
  clear p3 hb3 HB2 G3 P2
  have hmk := run_make33' N M hNM
  go_wp2
  go_loopw [9, 10] (fun out i wr => ∃ k : Nat, i = .int .i64 (k : Int) ∧ k ≤ N ∧ out = .slice (some ⟨w3.heap.size, 0, none⟩) k (N + M) ∧ Hid (wr.rowIs w3.heap.size 33 ((N + M) * 2) (pairTo (cat N I J) (cat N U V) k)) ∧ Hid (Below w3.heap.size w3 wr)) (fun _ i _ => N - (intOf i).toNat)
  case atStart => exact ⟨0, rfl, Nat.zero_le _, rfl, pair_made w3 (N + M) _ _, (Below.refl _ _).alloc (Nat.le_refl _) _⟩
  case round =>
    obtain ⟨k, rfl, hk, rfl, HR, HB⟩ := hrel
    by_cases hlt : k < N
    · obtain ⟨ba, off, rfl, hz⟩ := gi.row.pos (by omega)
      have c1 : wr.cell? ⟨ba, off + k * 2, none⟩ = some (.string (I k)) := cell_later HB.out (cell_later HB3.out (hz k hlt).1)
      have c2 : wr.cell? ⟨ba, off + k * 2 + 1, none⟩ = some (.string (U k)) := cell_later HB.out (cell_later HB3.out (hz k hlt).2)
      have hki : (k : Int) < (N : Int) := by omega
      clear hz hmk
      go_wp2
      have d1 : ∀ o, (wr.alloc o).cell? ⟨w3.heap.size, k * 2, none⟩ = some (.string ⟨#[]⟩) := fun o => by
        have := (HR.out.alloc o).cell (show k * 2 < (N + M) * 2 by omega)
        rwa [pairTo_past _ _ _ _ (by omega)] at this
      have d2 : ∀ o, (wr.alloc o).cell? ⟨w3.heap.size, k * 2 + 1, none⟩ = some (.string ⟨#[]⟩) := fun o => by
        have := (HR.out.alloc o).cell (show k * 2 + 1 < (N + M) * 2 by omega)
        rwa [pairTo_past _ _ _ _ (by omega)] at this
      have d3 : ∀ o j, (wr.alloc o).frozen? ⟨w3.heap.size, j, none⟩ = false := fun o j => (HR.out.alloc o).frozen j
      have hroom : k + 1 ≤ N + M := by omega
      have st : Hid (∀ o, (((wr.alloc o).setCell ⟨w3.heap.size, k * 2, none⟩ (.string (I k))).setCell ⟨w3.heap.size, k * 2 + 1, none⟩ (.string (U k))).rowIs w3.heap.size 33 ((N + M) * 2) (pairTo (cat N I J) (cat N U V) (k + 1))) := fun o => by
        have := pairTo_step (HR.out.alloc o)
        rwa [cat_left N I J k hlt, cat_left N U V k hlt] at this
      have sb : Hid (∀ o, Below w3.heap.size w3 (((wr.alloc o).setCell ⟨w3.heap.size, k * 2, none⟩ (.string (I k))).setCell ⟨w3.heap.size, k * 2 + 1, none⟩ (.string (U k)))) := fun o =>
        ((HB.out.alloc HB.out.size o).setCell (Nat.le_refl _) _).setCell (Nat.le_refl _) _
      clear HR HB
      go_region
      all_goals
        go_wp2
        go_roundw
        case rel => exact ⟨k + 1, by go_num, by omega, rfl, st.out _, (sb.out _).drew⟩
        case measure => simp [intOf]; omega
    · obtain rfl : N = k := by omega
      clear hmk
      go_wp2
      go_loopw [9, 11] (fun out i wr => ∃ k : Nat, i = .int .i64 (k : Int) ∧ k ≤ M ∧ out = .slice (some ⟨w3.heap.size, 0, none⟩) (N + k) (N + M) ∧ Hid (wr.rowIs w3.heap.size 33 ((N + M) * 2) (pairTo (cat N I J) (cat N U V) (N + k))) ∧ Hid (Below w3.heap.size w3 wr)) (fun _ i _ => M - (intOf i).toNat)
      case atStart => exact ⟨0, rfl, Nat.zero_le _, rfl, HR, HB⟩
      case round =>
        clear HR HB
        obtain ⟨k, rfl, hk, rfl, HR, HB⟩ := hrel
        by_cases hlt : k < M
        · obtain ⟨ba, off, rfl, hz⟩ := gj.row.pos (by omega)
          have c1 : wr.cell? ⟨ba, off + k * 2, none⟩ = some (.string (J k)) := cell_later HB.out (cell_later HB3.out (hz k hlt).1)
          have c2 : wr.cell? ⟨ba, off + k * 2 + 1, none⟩ = some (.string (V k)) := cell_later HB.out (cell_later HB3.out (hz k hlt).2)
          have hki : (k : Int) < (M : Int) := by omega
          clear hz
          go_wp2
          have d1 : ∀ o, (wr.alloc o).cell? ⟨w3.heap.size, (N + k) * 2, none⟩ = some (.string ⟨#[]⟩) := fun o => by
            have := (HR.out.alloc o).cell (show (N + k) * 2 < (N + M) * 2 by omega)
            rwa [pairTo_past _ _ _ _ (by omega)] at this
          have d2 : ∀ o, (wr.alloc o).cell? ⟨w3.heap.size, (N + k) * 2 + 1, none⟩ = some (.string ⟨#[]⟩) := fun o => by
            have := (HR.out.alloc o).cell (show (N + k) * 2 + 1 < (N + M) * 2 by omega)
            rwa [pairTo_past _ _ _ _ (by omega)] at this
          have d3 : ∀ o j, (wr.alloc o).frozen? ⟨w3.heap.size, j, none⟩ = false := fun o j => (HR.out.alloc o).frozen j
          have hroom : N + k + 1 ≤ N + M := by omega
          have st : Hid (∀ o, (((wr.alloc o).setCell ⟨w3.heap.size, (N + k) * 2, none⟩ (.string (J k))).setCell ⟨w3.heap.size, (N + k) * 2 + 1, none⟩ (.string (V k))).rowIs w3.heap.size 33 ((N + M) * 2) (pairTo (cat N I J) (cat N U V) (N + k + 1))) := fun o => by
            have := pairTo_step (HR.out.alloc o)
            rwa [cat_right N I J k, cat_right N U V k] at this
          have sb : Hid (∀ o, Below w3.heap.size w3 (((wr.alloc o).setCell ⟨w3.heap.size, (N + k) * 2, none⟩ (.string (J k))).setCell ⟨w3.heap.size, (N + k) * 2 + 1, none⟩ (.string (V k)))) := fun o =>
            ((HB.out.alloc HB.out.size o).setCell (Nat.le_refl _) _).setCell (Nat.le_refl _) _
          clear HR HB
          go_region
          all_goals
            go_wp2
            go_roundw
            case rel => exact ⟨k + 1, by go_num, by omega, rfl, st.out _, (sb.out _).drew⟩
            case measure => simp [intOf]; omega
        · obtain rfl : M = k := by omega
          have HJ : Hid (PairsAt wr (some ⟨w3.heap.size, 0, none⟩) (N + M) (cat N I J) (cat N U V)) := pairs_of_row HR.out
          have P4 : Hid (PairsAt wr a2 N I U) := P3.out.later HB.out
          have Q4 : Hid (PairsAt wr b2 M J V) := Q3.out.later HB.out
          have HB4 : Hid (Below w.heap.size w wr) := HB3.out.trans (HB.out.mono HB3.out.size)
          clear HR HB P3 Q3 HB3
          obtain ⟨w4, rfl⟩ : ∃ w4 : World, w4 = wr := ⟨_, rfl⟩
          go_wp2_with fail
          refine (uris10 a2 N N I U w4 hN P4.out).mono ?_
          rintro e w5 ⟨rfl, hc5, hb5⟩
          have C5 : Hid (∀ c, c < N → w5.cell? ⟨w4.heap.size, c, none⟩ = some (.string (U c))) := hc5
          have HB5 : Hid (Below w.heap.size w w5) := HB4.out.trans (hb5.mono HB4.out.size)
          have Q5 : Hid (PairsAt w5 b2 M J V) := Q4.out.later hb5
          have HJ5 : Hid (PairsAt w5 (some ⟨w3.heap.size, 0, none⟩) (N + M) (cat N I J) (cat N U V)) := HJ.out.later hb5
          clear hc5 hb5 HB4 Q4 HJ P4
          go_wp2_with fail
          refine (uris10 b2 M M J V w5 hM Q5.out).mono ?_
          rintro e w6 ⟨rfl, hc6, hb6⟩
          have C6 : Hid (∀ c, c < M → w6.cell? ⟨w5.heap.size, c, none⟩ = some (.string (V c))) := hc6
          have D6 : Hid (∀ c, c < N → w6.cell? ⟨w4.heap.size, c, none⟩ = some (.string (U c))) := fun c hc => cell_later hb6 (C5.out c hc)
          have HB6 : Hid (Below w.heap.size w w6) := HB5.out.trans (hb6.mono HB5.out.size)
          have HJ6 : Hid (PairsAt w6 (some ⟨w3.heap.size, 0, none⟩) (N + M) (cat N I J) (cat N U V)) := HJ5.out.later hb6
          clear hc6 hb6 HB5 Q5 HJ5 C5
          go_wp2_with fail
          refine (uris10 (some ⟨w3.heap.size, 0, none⟩) (N + M) (N + M) (cat N I J) (cat N U V) w6 hNM HJ6.out).mono ?_
          rintro e w7 ⟨rfl, hc7, hb7⟩
          have E7 : Hid (∀ c, c < N + M → w7.cell? ⟨w6.heap.size, c, none⟩ = some (.string (cat N U V c))) := hc7
          have C7 : Hid (∀ c, c < M → w7.cell? ⟨w5.heap.size, c, none⟩ = some (.string (V c))) := fun c hc => cell_later hb7 (C6.out c hc)
          have D7 : Hid (∀ c, c < N → w7.cell? ⟨w4.heap.size, c, none⟩ = some (.string (U c))) := fun c hc => cell_later hb7 (D6.out c hc)
          have HB7 : Hid (Below w.heap.size w w7) := HB6.out.trans (hb7.mono HB6.out.size)
          clear hc7 hb7 HB6 HJ6 C6 D6
          go_wp2
          go_loopw [15] (fun i wr => ∃ k : Nat, i = .int .i64 (k : Int) ∧ k ≤ N ∧ ∃ q, wr = w7.drewN q) (fun i _ => N - (intOf i).toNat)
          case atStart => exact ⟨0, rfl, Nat.zero_le _, 0, rfl⟩
          case round =>
            obtain ⟨k, rfl, hk, q, rfl⟩ := hrel
            by_cases hlt : k < N
            · have c1 := E7.out k (by omega)
              rw [cat_left N U V k hlt] at c1
              have c2 := D7.out k hlt
              have hki : (k : Int) < (N : Int) := by omega
              have hki2 : (k : Int) < (N : Int) + (M : Int) := by omega
              go_wp2
              go_quiet (fail)
              go_wp2
              go_roundw
              case rel => exact ⟨k + 1, by go_num, by omega, by first | exact ⟨_, rfl⟩ | exact dr2 _ _ _⟩
              case measure => simp [intOf]; omega
            · go_wp2
              go_loopw [16] (fun i wr => ∃ k : Nat, i = .int .i64 (k : Int) ∧ k ≤ M ∧ ∃ q, wr = w7.drewN q) (fun i _ => M - (intOf i).toNat)
              case atStart => exact ⟨0, rfl, Nat.zero_le _, q, rfl⟩
              case round =>
                obtain ⟨k', rfl, hk', q', rfl⟩ := hrel
                by_cases hlt' : k' < M
                · have c1 := E7.out (N + k') (by omega)
                  rw [cat_right N U V k'] at c1
                  have c2 := C7.out k' hlt'
                  have hki : (k' : Int) < (M : Int) := by omega
                  have hki2 : (N : Int) + (k' : Int) < (N : Int) + (M : Int) := by omega
                  go_wp2
                  go_quiet (fail)
                  go_wp2
                  go_roundw
                  case rel => exact ⟨k' + 1, by go_num, by omega, by first | exact ⟨_, rfl⟩ | exact dr2 _ _ _⟩
                  case measure => simp [intOf]; omega
                · rcases Nat.eq_zero_or_pos N with hz | hz
                  · have t1 : ¬ (0 : Int) < (N : Int) := by omega
                    have t2 : decide ((0 : Int) < (N : Int)) = false := by simp; omega
                    have t3 : decide (0 < N) = false := by simp; omega
                    clear hz
                    go_wp2
                    go_quiet (fail)
                    go_wp2
                    rcases Nat.eq_zero_or_pos M with hm | hm
                    · have u1 : ¬ (0 : Int) < (M : Int) := by omega
                      have u2 : decide ((0 : Int) < (M : Int)) = false := by simp; omega
                      have u3 : decide (0 < M) = false := by simp; omega
                      clear hm
                      go_quiet (fail)
                      go_wp2
                      go_ret
                      exact ⟨rfl, by repeat (first | exact HB7.out | apply below_drewN)⟩
                    · obtain ⟨bb, ob, rfl, hzb⟩ := gj.row.pos hm
                      have u1 : (0 : Int) < (M : Int) := by omega
                      have x1 : ((N : Int) + (M : Int) - 1).toNat = N + (M - 1) := by omega
                      have x2 : ((M : Int) - 1).toNat = M - 1 := by omega
                      have f1 := E7.out (N + (M - 1)) (by omega)
                      rw [cat_right N U V (M - 1)] at f1
                      have f2 := cell_later HB7.out (hzb (M - 1) (by omega)).2
                      have y1 : (N : Int) + (M : Int) - 1 < (N : Int) + (M : Int) := by omega
                      have y2 : 0 ≤ (N : Int) + (M : Int) - 1 := by omega
                      have y3 : (M : Int) - 1 < (M : Int) := by omega
                      have y4 : 0 ≤ (M : Int) - 1 := by omega
                      clear hzb
                      go_quiet (fail)
                      go_wp2
                      go_ret
                      exact ⟨rfl, by repeat (first | exact HB7.out | apply below_drewN)⟩
                  · obtain ⟨ba, oa, rfl, hza⟩ := gi.row.pos hz
                    have t1 : (0 : Int) < (N : Int) := by omega
                    have t4 : (0 : Int) < (N : Int) + (M : Int) := by omega
                    have e1 := E7.out 0 (by omega)
                    rw [cat_left N U V 0 hz] at e1
                    have e2 := cell_later HB7.out (hza 0 hz).2
                    rw [Nat.zero_mul, Nat.add_zero] at e2
                    clear hza
                    go_wp2
                    go_quiet (fail)
                    go_wp2
                    rcases Nat.eq_zero_or_pos M with hm | hm
                    · have u1 : ¬ (0 : Int) < (M : Int) := by omega
                      have u2 : decide ((0 : Int) < (M : Int)) = false := by simp; omega
                      have u3 : decide (0 < M) = false := by simp; omega
                      clear hm
                      go_quiet (fail)
                      go_wp2
                      go_ret
                      exact ⟨rfl, by repeat (first | exact HB7.out | apply below_drewN)⟩
                    · obtain ⟨bb, ob, rfl, hzb⟩ := gj.row.pos hm
                      have u1 : (0 : Int) < (M : Int) := by omega
                      have x1 : ((N : Int) + (M : Int) - 1).toNat = N + (M - 1) := by omega
                      have x2 : ((M : Int) - 1).toNat = M - 1 := by omega
                      have f1 := E7.out (N + (M - 1)) (by omega)
                      rw [cat_right N U V (M - 1)] at f1
                      have f2 := cell_later HB7.out (hzb (M - 1) (by omega)).2
                      have y1 : (N : Int) + (M : Int) - 1 < (N : Int) + (M : Int) := by omega
                      have y2 : 0 ≤ (N : Int) + (M : Int) - 1 := by omega
                      have y3 : (M : Int) - 1 < (M : Int) := by omega
                      have y4 : 0 ≤ (M : Int) - 1 := by omega
                      clear hzb
                      go_quiet (fail)
                      go_wp2
                      go_ret
                      exact ⟨rfl, by repeat (first | exact HB7.out | apply below_drewN)⟩
end Go.Proofs.Qxb6605154a
