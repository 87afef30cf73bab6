/-
  dropFirst's LAW, WALKED: the list empties.
-/
import Derived.Test.Qxb6603979aLawD
namespace Go.Proofs.Qxb6603979a
open Go.ChangeShapes Go.WideShapes Go.ChangeAt Go.RowKit

set_option maxRecDepth 100000 in
set_option maxHeartbeats 4000000 in
theorem drop_walkE (a : Option Addr) (N cap : Nat) (A : Nat → Option Addr) (L C : Nat → Nat) (Z : Nat → List Int) (f n size : Int) (w : World) (gi : GridIn w a N A L C Z) (hE : Hid (n = 1)) :
    Calls Try.prog 7 #[.slice a N cap, .int .i64 f, .int .i64 n, .int .i64 size] w fun e w' => e = .returned (.bool true) ∧ Below w.heap.size w w' := by
  have hNm := gi.fits
  unfold maxLen at hNm
  have q40 : ∀ (w : World) (a : Option Addr) (n c n' c' : Nat), (binOp .neq 40 (.slice a n c) (.slice none n' c')).run Try.prog w = .ok (.bool (!a.isNone)) w := fun w a n c n' c' => run_neq_slice_nil_any w _ _ a n c n' c' Try.underlying40
  have q42 : ∀ (w : World) (a : Option Addr) (n c n' c' : Nat), (binOp .eql 42 (.slice a n c) (.slice none n' c')).run Try.prog w = .ok (.bool a.isNone) w := fun w a n c n' c' => Lib.run_eql_slice_nil w _ _ a n c n' c' Try.underlying42
  go_enter Try.func7, Try.ntmps7
  go_wp2_with fail
  refine (bytes20 a N cap A L C f n size w gi.fits gi.each gi.top).mono ?_
  rintro e w2 ⟨⟨ok, rfl, -⟩, hw⟩
  obtain rfl := hw.symm
  cases ok
  · go_wp2
    go_ret
    exact ⟨rfl, Below.refl _ _⟩
  go_wp2_with fail
  refine (fits_any a N cap A L C w gi.fits gi.each gi.top).mono ?_
  rintro e w2 ⟨⟨ok, rfl, hfit⟩, hw⟩
  obtain rfl := hw.symm
  cases ok
  · go_wp2
    go_ret
    exact ⟨rfl, Below.refl _ _⟩
  obtain ⟨hN, hL, hS⟩ := hfit rfl
  have HL : Hid (∀ r, r < N → L r ≤ 131072) := hL
  clear hL hfit
  by_cases hn1 : n < 1
  · go_wp2
    go_ret
    exact ⟨rfl, Below.refl _ _⟩
  go_wp2_with fail
  refine (lens23 a N cap A L C w hN gi.top).mono ?_
  rintro e w1 ⟨rfl, hr1, hb1⟩
  go_wp2_with fail
  refine (shape_any w.heap.size N L f n size w1 hN HL.out hS (lensTo_cell hr1)).mono ?_
  rintro e w2 ⟨⟨ok, rfl, hok⟩, hw⟩
  obtain rfl := hw.symm
  cases ok
  · go_wp2
    go_ret
    exact ⟨rfl, hb1⟩
  have hsh : Shaped N L f n size := hok.1 rfl
  clear hok hr1
  obtain ⟨h0, s1, s2, s3, s4, s5, s6⟩ := shaped_pos hsh (by omega)
  have hl0 := HL.out 0 h0
  have HLp : Hid (∀ r, r < N → 0 < L r) := shaped_each hsh (by omega)
  obtain ⟨fn, rfl⟩ : ∃ fn : Nat, f = (fn : Int) := ⟨f.toNat, by omega⟩
  have HS : Hid (Shaped N L (fn : Int) n size) := hsh
  have hn2 : n ≤ 131072 := by omega
  have hfn : fn ≤ 131072 := by omega
  have hfL : fn ≤ L 0 := by omega
  clear s1 s2 s3 s4 s5 s6 hsh
  obtain ⟨b, off, rfl, hz⟩ := gi.top.pos h0
  have HZ : Hid (∀ r, r < N → w.cell? ⟨b, off + r, none⟩ = some (.slice (A r) (L r) (C r))) := hz
  clear hz
  have HB1 : Hid (Below w.heap.size w w1) := hb1
  clear hb1
  go_wp2_with fail
  refine (build_any b off N cap A L C Z w1 h0 hN HLp.out HL.out (fun r hr => cell_later HB1.out (HZ.out r hr)) (fun r hr => by
    obtain ⟨b', o', h1, h2⟩ := gi.cells r hr (HLp.out r hr)
    exact ⟨b', o', h1, fun c hc => cell_later HB1.out (h2 c hc)⟩)).mono ?_
  rintro e w2 ⟨rfl, ⟨gs, hbt⟩, hb2⟩
  have hGle := HB1.out.size
  have HB2 : Hid (Below w.heap.size w w2) := HB1.out.trans (hb2.mono hGle)
  obtain ⟨G, hG⟩ : ∃ G, w1.heap.size = G := ⟨_, rfl⟩
  rw [hG] at hbt hGle ⊢
  have HBT : Hid (Built w2 G G N gs L Z N) := hbt
  clear hbt hb2 hG HB1
  have hmk := run_make_row' (P := Try.prog) 40 42 (.slice none 0 0) 24 Try.underlying40 Try.info42 rfl .i64 .i64 N (by omega) (by omega)
  go_wp2
  go_loopw [11] (fun i wr => ∃ k : Nat, i = .int .i64 (k : Int) ∧ k ≤ N ∧ Hid (wr.rowIs w2.heap.size 42 N (rowsTo gs L k)) ∧ Hid (Below w2.heap.size w2 wr)) (fun i _ => N - (intOf i).toNat)
  case atStart =>
    refine ⟨0, rfl, Nat.zero_le _, ?_, (Below.refl _ _).alloc (Nat.le_refl _) _⟩
    exact (World.rowIs_made w2 (.slice none 0 0) N 42).congr fun i _ => by unfold rowsTo; rw [if_neg (by omega)]
  case round =>
    obtain ⟨k, rfl, hk, HO, HB3⟩ := hrel
    by_cases hlt : k < N
    · have d1 := rowsTo_cell (HBT.out.later HB3.out).row k hlt hlt
      have d2 := rowsTo_none HO.out k hlt (Nat.le_refl _)
      have d3 := HO.out.frozen k
      go_wp2
      go_roundw
      case rel => exact ⟨k + 1, by go_num, by omega, rowsTo_step HO.out, HB3.out.setCell (Nat.le_refl _) _⟩
      case measure => simp [intOf]; omega
    · obtain rfl : N = k := by omega
      have HBT3 : Hid (Built wr G G N gs L Z N) := HBT.out.later HB3.out
      have hle2 := HB2.out.size
      have HBW : Hid (Below w.heap.size w wr) := HB2.out.trans (HB3.out.mono hle2)
      have hGlt := HBT.out.row.lt
      have hOG : w2.heap.size ≠ G := by omega
      obtain ⟨O, hO⟩ : ∃ O, w2.heap.size = O := ⟨_, rfl⟩
      rw [hO] at HO hOG ⊢
      clear HB2 HB3 HBT hle2 hGlt hO hmk
      obtain ⟨w3, rfl⟩ : ∃ w3 : World, w3 = wr := ⟨_, rfl⟩
      obtain rfl := hE.out
      go_wp2_with fail
      refine (dropE (some ⟨G, 0, none⟩) N N (fn : Int) size w3 (by omega) (by omega)).mono ?_
      rintro e w4 ⟨rfl, hb4⟩
      have HD : Hid (Dropped w4 G O N 0 gs L Z) := (Dropped.start HBT3.out HO.out).later hb4
      have HB4 : Hid (Below w.heap.size w w4) := HBW.out.trans (hb4.mono HBW.out.size)
      clear hb4 HBT3 HO HBW
      go_wp2
      go_loopw [16] (fun i wr => ∃ k : Nat, i = .int .i64 (k : Int) ∧ k ≤ N ∧ Hid (Below w4.heap.size w4 wr)) (fun i _ => N - (intOf i).toNat)
      case atStart => exact ⟨0, rfl, Nat.zero_le _, Below.refl _ _⟩
      case round =>
        obtain ⟨k, rfl, hk, HB5⟩ := hrel
        by_cases hlt : k < N
        · obtain ⟨b', o', hA, hzz⟩ := gi.cells k hlt (HLp.out k hlt)
          have c1 : wr.cell? ⟨b, off + k, none⟩ = some (.slice (some ⟨b', o', none⟩) (L k) (C k)) := by rw [← hA]; exact cell_later HB5.out (cell_later HB4.out (HZ.out k hlt))
          have c2 := rowsTo_cell (HD.out.later HB5.out).orig k hlt hlt
          have hki : (k : Int) < (N : Int) := by omega
          have R26 : Hid (∀ W, Below w4.heap.size w4 W → Calls Try.prog 26 #[.slice (some ⟨b', o', none⟩) (L k) (C k), .slice (some ⟨gs k, 0, none⟩) (L k) (L k)] W fun e w' => e = .returned (.bool true) ∧ Below w4.heap.size w4 w') := fun W hW =>
            (revs26 b' o' (L k) (C k) (gs k) (Z k) W (HL.out k hlt) (fun c hc => cell_later hW (cell_later HB4.out (hzz c hc))) ((HD.out.later hW).chunk k hlt)).mono fun e w' ⟨h1, h2⟩ => ⟨h1, hW.trans (h2.mono hW.size)⟩
          clear hzz hA
          go_wp2
          go_region_with (go_at_call 26; refine (R26.out _ (by first | exact HB5.out | exact HB5.out.drew)).mono ?_; rintro e w5 ⟨rfl, hb5⟩)
          all_goals
            go_wp2
            go_roundw
            case rel => exact ⟨k + 1, by go_num, by omega, hb5⟩
            case measure => simp [intOf]; omega
        · have HD5 : Hid (Dropped wr G O N 0 gs L Z) := HD.out.later HB5.out
          have HB6 : Hid (Below w.heap.size w wr) := HB4.out.trans (HB5.out.mono HB4.out.size)
          clear HD HB4 HB5
          obtain ⟨w6, rfl⟩ : ∃ w6 : World, w6 = wr := ⟨_, rfl⟩
          go_wp2
          go_loopw [17] (fun i wr => ∃ k : Nat, i = .int .i64 (k : Int) ∧ k ≤ N ∧ Hid (Below w6.heap.size w6 wr)) (fun i _ => N - (intOf i).toNat)
          case atStart => exact ⟨0, rfl, Nat.zero_le _, Below.refl _ _⟩
          case round =>
            obtain ⟨k, rfl, hk, HB7⟩ := hrel
            by_cases hlt : k < N
            · have c1 : wr.cell? ⟨G, k, none⟩ = some (.slice (some ⟨gs k, 0, none⟩) (L k) (L k)) := by
                have := (HD5.out.later HB7.out).row.cell hlt
                rw [if_neg (by omega)] at this
                unfold rowsTo at this
                rwa [if_pos hlt] at this
              have c2 := rowsTo_cell (HD5.out.later HB7.out).orig k hlt hlt
              have hki : (k : Int) < (N : Int) := by omega
              have hL1 := HL.out k hlt
              have hL2 := HLp.out k hlt
              go_wp2
              go_quiet ((go_at_call 27; exact Calls.quiet_of (same27 _ _ _ hL2 hL1)))
              go_wp2
              go_roundw
              case rel => exact ⟨k + 1, by go_num, by omega, below_drewN HB7.out _⟩
              case measure => simp [intOf]; omega
            · go_wp2
              go_ret
              exact ⟨rfl, HB6.out.trans (HB7.out.mono HB6.out.size)⟩
end Go.Proofs.Qxb6603979a
