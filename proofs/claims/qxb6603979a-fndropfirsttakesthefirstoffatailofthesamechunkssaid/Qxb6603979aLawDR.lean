/-
  dropFirst's LAW, WALKED: the list goes on.
-/
import Derived.Test.Qxb6603979aLawD
namespace Go.Proofs.Qxb6603979a
open Go.ChangeShapes Go.WideShapes Go.ChangeAt Go.RowKit

set_option maxRecDepth 100000 in
set_option maxHeartbeats 4000000 in
theorem drop_walkR (a : Option Addr) (N cap : Nat) (A : Nat → Option Addr) (L C : Nat → Nat) (Z : Nat → List Int) (f n size : Int) (w : World) (gi : GridIn w a N A L C Z) (hE : Hid (n ≠ 1)) :
    Calls Try.prog 7 #[.slice a N cap, .int .i64 f, .int .i64 n, .int .i64 size] w fun e w' => e = .returned (.bool true) ∧ Below w.heap.size w w' := by
  have hNm := gi.fits
  unfold maxLen at hNm
  have q40 : ∀ (w : World) (a : Option Addr) (n c n' c' : Nat), (binOp .neq 40 (.slice a n c) (.slice none n' c')).run Try.prog w = .ok (.bool (!a.isNone)) w := fun w a n c n' c' => run_neq_slice_nil_any w _ _ a n c n' c' Try.underlying40
  have q42 : ∀ (w : World) (a : Option Addr) (n c n' c' : Nat), (binOp .eql 42 (.slice a n c) (.slice none n' c')).run Try.prog w = .ok (.bool a.isNone) w := fun w a n c n' c' => Lib.run_eql_slice_nil w _ _ a n c n' c' Try.underlying42
  go_enter Try.func7, Try.ntmps7
  go_wp2_with fail
  refine (bytes20 a N cap A L C f n size w gi.fits gi.each gi.top).mono ?_
  rintro e w2 ⟨⟨ok, rfl, -⟩, hw⟩
  obtain rfl := hw.symm
  cases ok
  · go_wp2
    go_ret
    exact ⟨rfl, Below.refl _ _⟩
  go_wp2_with fail
  refine (fits_any a N cap A L C w gi.fits gi.each gi.top).mono ?_
  rintro e w2 ⟨⟨ok, rfl, hfit⟩, hw⟩
  obtain rfl := hw.symm
  cases ok
  · go_wp2
    go_ret
    exact ⟨rfl, Below.refl _ _⟩
  obtain ⟨hN, hL, hS⟩ := hfit rfl
  have HL : Hid (∀ r, r < N → L r ≤ 131072) := hL
  clear hL hfit
  by_cases hn1 : n < 1
  · go_wp2
    go_ret
    exact ⟨rfl, Below.refl _ _⟩
  go_wp2_with fail
  refine (lens23 a N cap A L C w hN gi.top).mono ?_
  rintro e w1 ⟨rfl, hr1, hb1⟩
  go_wp2_with fail
  refine (shape_any w.heap.size N L f n size w1 hN HL.out hS (lensTo_cell hr1)).mono ?_
  rintro e w2 ⟨⟨ok, rfl, hok⟩, hw⟩
  obtain rfl := hw.symm
  cases ok
  · go_wp2
    go_ret
    exact ⟨rfl, hb1⟩
  have hsh : Shaped N L f n size := hok.1 rfl
  clear hok hr1
  obtain ⟨h0, s1, s2, s3, s4, s5, s6⟩ := shaped_pos hsh (by omega)
  have hl0 := HL.out 0 h0
  have HLp : Hid (∀ r, r < N → 0 < L r) := shaped_each hsh (by omega)
  obtain ⟨fn, rfl⟩ : ∃ fn : Nat, f = (fn : Int) := ⟨f.toNat, by omega⟩
  have HS : Hid (Shaped N L (fn : Int) n size) := hsh
  have hn2 : n ≤ 131072 := by omega
  have hfn : fn ≤ 131072 := by omega
  have hfL : fn ≤ L 0 := by omega
  clear s1 s2 s3 s4 s5 s6 hsh
  obtain ⟨b, off, rfl, hz⟩ := gi.top.pos h0
  have HZ : Hid (∀ r, r < N → w.cell? ⟨b, off + r, none⟩ = some (.slice (A r) (L r) (C r))) := hz
  clear hz
  have HB1 : Hid (Below w.heap.size w w1) := hb1
  clear hb1
  go_wp2_with fail
  refine (build_any b off N cap A L C Z w1 h0 hN HLp.out HL.out (fun r hr => cell_later HB1.out (HZ.out r hr)) (fun r hr => by
    obtain ⟨b', o', h1, h2⟩ := gi.cells r hr (HLp.out r hr)
    exact ⟨b', o', h1, fun c hc => cell_later HB1.out (h2 c hc)⟩)).mono ?_
  rintro e w2 ⟨rfl, ⟨gs, hbt⟩, hb2⟩
  have hGle := HB1.out.size
  have HB2 : Hid (Below w.heap.size w w2) := HB1.out.trans (hb2.mono hGle)
  obtain ⟨G, hG⟩ : ∃ G, w1.heap.size = G := ⟨_, rfl⟩
  rw [hG] at hbt hGle ⊢
  have HBT : Hid (Built w2 G G N gs L Z N) := hbt
  clear hbt hb2 hG HB1
  have hmk := run_make_row' (P := Try.prog) 40 42 (.slice none 0 0) 24 Try.underlying40 Try.info42 rfl .i64 .i64 N (by omega) (by omega)
  go_wp2
  go_loopw [11] (fun i wr => ∃ k : Nat, i = .int .i64 (k : Int) ∧ k ≤ N ∧ Hid (wr.rowIs w2.heap.size 42 N (rowsTo gs L k)) ∧ Hid (Below w2.heap.size w2 wr)) (fun i _ => N - (intOf i).toNat)
  case atStart =>
    refine ⟨0, rfl, Nat.zero_le _, ?_, (Below.refl _ _).alloc (Nat.le_refl _) _⟩
    exact (World.rowIs_made w2 (.slice none 0 0) N 42).congr fun i _ => by unfold rowsTo; rw [if_neg (by omega)]
  case round =>
    obtain ⟨k, rfl, hk, HO, HB3⟩ := hrel
    by_cases hlt : k < N
    · have d1 := rowsTo_cell (HBT.out.later HB3.out).row k hlt hlt
      have d2 := rowsTo_none HO.out k hlt (Nat.le_refl _)
      have d3 := HO.out.frozen k
      go_wp2
      go_roundw
      case rel => exact ⟨k + 1, by go_num, by omega, rowsTo_step HO.out, HB3.out.setCell (Nat.le_refl _) _⟩
      case measure => simp [intOf]; omega
    · obtain rfl : N = k := by omega
      have HBT3 : Hid (Built wr G G N gs L Z N) := HBT.out.later HB3.out
      have hle2 := HB2.out.size
      have HBW : Hid (Below w.heap.size w wr) := HB2.out.trans (HB3.out.mono hle2)
      have hGlt := HBT.out.row.lt
      have hOG : w2.heap.size ≠ G := by omega
      obtain ⟨O, hO⟩ : ∃ O, w2.heap.size = O := ⟨_, rfl⟩
      rw [hO] at HO hOG ⊢
      clear HB2 HB3 HBT hle2 hGlt hO hmk
      obtain ⟨w3, rfl⟩ : ∃ w3 : World, w3 = wr := ⟨_, rfl⟩
      have hgt : 1 < n := by have := hE.out; omega
      go_wp2_with fail
      refine (drop_any G G O N fn gs L Z n size w3 hN hfn hgt hn2 HS.out gi.long HBT3.out HO.out hOG (Nat.le_refl _)).mono ?_
      rintro e w4 ⟨kk, M, f2, rfl, ht, hd, hb4⟩
      have HD : Hid (Dropped w4 G O N kk gs L Z) := hd
      have HB4 : Hid (Below w.heap.size w w4) := HBW.out.trans (hb4.mono hGle)
      have HT : Hid (Tail N kk M f2 L Z fn n size) := ht
      clear hb4 HBT3 HO HBW ht hd
      go_wp2
      go_loopw [16] (fun i wr => ∃ k : Nat, i = .int .i64 (k : Int) ∧ k ≤ N ∧ Hid (Below w4.heap.size w4 wr)) (fun i _ => N - (intOf i).toNat)
      case atStart => exact ⟨0, rfl, Nat.zero_le _, Below.refl _ _⟩
      case round =>
        obtain ⟨k, rfl, hk, HB5⟩ := hrel
        by_cases hlt : k < N
        · obtain ⟨b', o', hA, hzz⟩ := gi.cells k hlt (HLp.out k hlt)
          have c1 : wr.cell? ⟨b, off + k, none⟩ = some (.slice (some ⟨b', o', none⟩) (L k) (C k)) := by rw [← hA]; exact cell_later HB5.out (cell_later HB4.out (HZ.out k hlt))
          have c2 := rowsTo_cell (HD.out.later HB5.out).orig k hlt hlt
          have hki : (k : Int) < (N : Int) := by omega
          have R26 : Hid (∀ W, Below w4.heap.size w4 W → Calls Try.prog 26 #[.slice (some ⟨b', o', none⟩) (L k) (C k), .slice (some ⟨gs k, 0, none⟩) (L k) (L k)] W fun e w' => e = .returned (.bool true) ∧ Below w4.heap.size w4 w') := fun W hW =>
            (revs26 b' o' (L k) (C k) (gs k) (Z k) W (HL.out k hlt) (fun c hc => cell_later hW (cell_later HB4.out (hzz c hc))) ((HD.out.later hW).chunk k hlt)).mono fun e w' ⟨h1, h2⟩ => ⟨h1, hW.trans (h2.mono hW.size)⟩
          clear hzz hA
          go_wp2
          go_region_with (go_at_call 26; refine (R26.out _ (by first | exact HB5.out | exact HB5.out.drew)).mono ?_; rintro e w5 ⟨rfl, hb5⟩)
          all_goals
            go_wp2
            go_roundw
            case rel => exact ⟨k + 1, by go_num, by omega, hb5⟩
            case measure => simp [intOf]; omega
        · have HD5 : Hid (Dropped wr G O N kk gs L Z) := HD.out.later HB5.out
          have HB6 : Hid (Below w.heap.size w wr) := HB4.out.trans (HB5.out.mono HB4.out.size)
          clear HD HB4 HB5
          obtain ⟨w6, rfl⟩ : ∃ w6 : World, w6 = wr := ⟨_, rfl⟩
          have hne := hE.out
          have hn0 : (n - 1 == 0) = false := by simp; omega
          have hsum := HT.out.sum
          have hfew := HT.out.few
          have hpos := HT.out.pos
          have hMN : M ≤ 65536 := by omega
          have hMp : ((M : Int) == 0) = false := by simp; omega
          have hMi : (0 : Int) < (M : Int) := by omega
          have hkN : (kk : Int) < (N : Int) := by omega
          have hkM : (N : Int) - (M : Int) = (kk : Int) := by omega
          have hSM := Nat.le_trans HT.out.sumL_le hS
          have HSum : Hid (N = kk + M) := hsum
          clear hsum hne
          go_wp2_with fail
          refine (lens28 (some ⟨G, kk, none⟩) M M (fun r => some ⟨gs (kk + r), 0, none⟩) (fun r => L (kk + r)) (fun r => L (kk + r)) w6 hMN (.inr ⟨G, kk, rfl, fun r hr => HD5.out.at HSum.out r hr⟩)).mono ?_
          rintro e w7 ⟨rfl, hr7, hb7⟩
          go_wp2_with fail
          refine (shape_any w6.heap.size M (fun r => L (kk + r)) (f2 : Int) (n - 1) size w7 hMN (fun r hr => HL.out (kk + r) (by have := HSum.out; omega)) hSM (lensTo_cell hr7)).mono ?_
          rintro e w8 ⟨⟨ok, rfl, hok⟩, hw⟩
          obtain rfl := hw.symm
          obtain rfl : ok = true := hok.2 HT.out.shaped
          have HD7 : Hid (Dropped w7 G O N kk gs L Z) := HD5.out.later hb7
          have HB7 : Hid (Below w.heap.size w w7) := HB6.out.trans (hb7.mono HB6.out.size)
          clear hok hb7 hr7 HD5 HB6 hw
          have q48 := neq48
          go_wp2
          go_quiet (fail)
          go_wp2
          have HD8 : Hid (∀ q, Dropped (w7.drewN q) G O N kk gs L Z) := fun q => HD7.out.later (below_drewN (Below.refl _ _) q)
          go_loopw [19] (fun i wr => ∃ k : Nat, i = .int .i64 (k : Int) ∧ k ≤ M ∧ Hid (Below w7.heap.size w7 wr)) (fun i _ => M - (intOf i).toNat)
          case atStart => exact ⟨0, rfl, Nat.zero_le _, below_drewN (Below.refl _ _) _⟩
          case round =>
            obtain ⟨k, rfl, hk, HB8⟩ := hrel
            by_cases hlt : k < M
            · have hltN : kk + k < N := by have := HSum.out; omega
              have c1 := (HD7.out.later HB8.out).at HSum.out k hlt
              have c2 := rowsTo_cell (HD7.out.later HB8.out).orig (kk + k) hltN hltN
              have hki : (k : Int) < (M : Int) := by omega
              have hki2 : (kk : Int) + (k : Int) < (N : Int) := by omega
              have hL1 := HL.out (kk + k) hltN
              have hL2 := HLp.out (kk + k) hltN
              go_wp2
              go_quiet ((go_at_call 27; exact Calls.quiet_of (same27 _ _ _ hL2 hL1)))
              go_wp2
              go_roundw
              case rel => exact ⟨k + 1, by go_num, by omega, below_drewN HB8.out _⟩
              case measure => simp [intOf]; omega
            · have HD9 : Hid (Dropped wr G O N kk gs L Z) := HD7.out.later HB8.out
              have HB9 : Hid (Below w.heap.size w wr) := HB7.out.trans (HB8.out.mono HB7.out.size)
              clear HD7 HB7 HB8 HD8
              obtain ⟨w9, rfl⟩ : ∃ w9 : World, w9 = wr := ⟨_, rfl⟩
              go_wp2
              go_loopw [20] (fun i wr => ∃ k : Nat, i = .int .i64 (k : Int) ∧ 1 ≤ k ∧ k ≤ N ∧ Hid (Below w9.heap.size w9 wr)) (fun i _ => N - (intOf i).toNat)
              case atStart => exact ⟨1, rfl, Nat.le_refl _, by omega, Below.refl _ _⟩
              case round =>
                obtain ⟨k, rfl, hk1, hk, HB10⟩ := hrel
                by_cases hlt : k < N
                · have c1 := (HD9.out.later HB10.out).at1 k hk1 hlt
                  have c2 := rowsTo_cell (HD9.out.later HB10.out).orig k hlt hlt
                  have hki : (k : Int) < (N : Int) := by omega
                  have hL1 := HL.out k hlt
                  have hL2 := HLp.out k hlt
                  go_wp2
                  go_quiet ((go_at_call 27; exact Calls.quiet_of (same27 _ _ _ hL2 hL1)))
                  go_wp2
                  go_roundw
                  case rel => exact ⟨k + 1, by go_num, by omega, by omega, below_drewN HB10.out _⟩
                  case measure => simp [intOf]; omega
                · have HD11 : Hid (Dropped wr G O N kk gs L Z) := HD9.out.later HB10.out
                  have HB11 : Hid (Below w.heap.size w wr) := HB9.out.trans (HB10.out.mono HB9.out.size)
                  clear HD9 HB9 HB10
                  obtain ⟨w11, rfl⟩ : ∃ w11 : World, w11 = wr := ⟨_, rfl⟩
                  have HBq : Hid (∀ q, Below w.heap.size w (w11.drewN q)) := fun q => below_drewN HB11.out q
                  have HDq : Hid (∀ q, Dropped (w11.drewN q) G O N kk gs L Z) := fun q => HD11.out.later (below_drewN (Below.refl _ _) q)
                  have R29 : Hid (∀ q, Calls Try.prog 29 #[.slice (some ⟨b, off, none⟩) N cap, .int .i64 (fn : Int)] (w11.drewN q) fun e w' => (∃ n, e = .returned (.slice (some ⟨w11.heap.size, 0, none⟩) n (sumL L N)) ∧ OutAt w' w11.heap.size w11.heap.size (sumL L N) n (liveTo L Z fn N 0)) ∧ Below w11.heap.size (w11.drewN q) w') := fun q =>
                    live29 b off N cap fn A L C Z (w11.drewN q) h0 hN HL.out hS hfL gi.long (fun r hr => cell_later (HBq.out q) (HZ.out r hr)) (fun r hr => by
                      obtain ⟨b', o', h1, h2⟩ := gi.cells r hr (HLp.out r hr)
                      exact ⟨b', o', h1, fun c hc => cell_later (HBq.out q) (h2 c hc)⟩)
                  have hlen := live_full_length (f := fn) gi.long
                  have hns := (shaped_pos HS.out (by omega)).2.2.2.2.2.2
                  have HLEN : Hid ((liveTo L Z fn N 0).length = sumL L N - fn ∧ n = (sumL L N : Int) - (fn : Int)) := ⟨hlen, hns⟩
                  clear hlen hns
                  have c2 := rowsTo_cell HD11.out.orig 0 h0 h0
                  have hL1 := HL.out 0 h0
                  have hL2 := HLp.out 0 h0
                  have h0i : (0 : Int) < (N : Int) := by omega
                  have hkk : kk = 0 ∨ kk = 1 := by omega
                  rcases hkk with hkk | hkk
                  · have t1 : ¬ (0 : Int) < (kk : Int) := by omega
                    have t2 : ((kk : Int) == 0) = true := by simp; omega
                    have c0 := HD11.out.first0 hkk h0
                    clear hkk
                    go_wp2
                    go_quiet ((go_at_call 27; exact Calls.quiet_of (same27 _ _ _ hL2 hL1)))
                    go_wp2_with fail
                    refine (R29.out _).mono ?_
                    rintro e w12 ⟨⟨n1, rfl, ho1⟩, hb12⟩
                    have HB12 : Hid (Below w.heap.size w w12) := (HBq.out _).trans (hb12.mono (HBq.out 0).size)
                    have HD12 : Hid (Dropped w12 G O N kk gs L Z) := (HDq.out _).later hb12
                    have HO1 : Hid (OutAt w12 w11.heap.size w11.heap.size (sumL L N) n1 (liveTo L Z fn N 0)) := ho1
                    have hn1e := ho1.1
                    have hn12 : 2 ≤ n1 := by have := HLEN.out.1; have := HLEN.out.2; omega
                    have hT12 : 2 ≤ sumL L N := by have := HLEN.out.1; omega
                    have HN1 : Hid (n1 = (liveTo L Z fn N 0).length) := hn1e
                    clear ho1 hb12 hn1e HBq HDq R29
                    go_wp2_with fail
                    refine (live30 G kk M M f2 (fun r => gs (kk + r)) (fun r => L (kk + r)) (fun r => Z (kk + r)) w12 hpos hMN (fun r hr => HL.out (kk + r) (by have := HSum.out; omega)) hSM (by simpa using HT.out.front) (fun r hr => gi.long (kk + r) (by have := HSum.out; omega)) (fun r hr => HD12.out.at HSum.out r hr) (fun r hr => HD12.out.chunk (kk + r) (by have := HSum.out; omega))).mono ?_
                    rintro e w13 ⟨⟨n2, rfl, ho2⟩, hb13⟩
                    have hlv := HT.out.live
                    rw [hlv] at ho2
                    obtain rfl : n2 = n1 - 1 := by have h1 := ho2.1; have h2 := HN1.out; simp only [List.length_drop] at h1; omega
                    have hc1 : ∀ c, c < n1 - 1 → w13.cell? ⟨w11.heap.size, 1 + c, none⟩ = some (.int .i64 (((liveTo L Z fn N 0).drop 1).getD c 0)) := fun c hc => by
                      have := cell_later hb13 (HO1.out.cell (show 1 + c < n1 by omega))
                      rw [this]
                      simp only [List.getD_eq_getElem?_getD, List.getElem?_drop]
                    have hc2 : ∀ c, c < n1 - 1 → w13.cell? ⟨w12.heap.size, 0 + c, none⟩ = some (.int .i64 (((liveTo L Z fn N 0).drop 1).getD c 0)) := fun c hc => by
                      rw [Nat.zero_add]; exact ho2.cell hc
                    have hn1b : n1 - 1 ≤ 131072 := by have := HN1.out; have := HLEN.out.1; omega
                    have R31 : Hid (∀ c1 c2, Calls Try.prog 31 #[.slice (some ⟨w12.heap.size, 0, none⟩) (n1 - 1) c1, .slice (some ⟨w11.heap.size, 1, none⟩) (n1 - 1) c2] w13 fun e w' => e = .returned (.bool true) ∧ ∃ q, w' = w13.drewN q) := fun c1 c2 =>
                      seq31 w12.heap.size 0 c1 w11.heap.size 1 c2 (n1 - 1) _ w13 hn1b hc2 hc1
                    have HB13 : Hid (Below w.heap.size w w13) := HB12.out.trans (hb13.mono HB12.out.size)
                    have hi1 : (1 : Int) ≤ (n1 : Int) := by omega
                    have hi2 : (1 : Int) < (sumL L N : Int) := by omega
                    clear hc1 hc2 ho2 hb13 hlv HD12 HB12
                    go_wp2_with fail
                    refine (R31.out _ _).mono ?_
                    rintro e w14 ⟨rfl, q, rfl⟩
                    go_wp2
                    go_ret
                    exact ⟨rfl, below_drewN HB13.out _⟩
                  · have t1 : (0 : Int) < (kk : Int) := by omega
                    have t1n : 0 < kk := by omega
                    have t1d : decide ((0 : Int) < (kk : Int)) = true := by simpa using t1n
                    have t1e : decide (0 < kk) = true := by simpa using t1n
                    have t2 : ((kk : Int) == 0) = false := by simp; omega
                    have c0 := HD11.out.first1 hkk h0
                    clear hkk
                    go_wp2
                    go_quiet (fail)
                    go_wp2_with fail
                    refine (R29.out _).mono ?_
                    rintro e w12 ⟨⟨n1, rfl, ho1⟩, hb12⟩
                    have HB12 : Hid (Below w.heap.size w w12) := (HBq.out _).trans (hb12.mono (HBq.out 0).size)
                    have HD12 : Hid (Dropped w12 G O N kk gs L Z) := (HDq.out _).later hb12
                    have HO1 : Hid (OutAt w12 w11.heap.size w11.heap.size (sumL L N) n1 (liveTo L Z fn N 0)) := ho1
                    have hn1e := ho1.1
                    have hn12 : 2 ≤ n1 := by have := HLEN.out.1; have := HLEN.out.2; omega
                    have hT12 : 2 ≤ sumL L N := by have := HLEN.out.1; omega
                    have HN1 : Hid (n1 = (liveTo L Z fn N 0).length) := hn1e
                    clear ho1 hb12 hn1e HBq HDq R29
                    go_wp2_with fail
                    refine (live30 G kk M M f2 (fun r => gs (kk + r)) (fun r => L (kk + r)) (fun r => Z (kk + r)) w12 hpos hMN (fun r hr => HL.out (kk + r) (by have := HSum.out; omega)) hSM (by simpa using HT.out.front) (fun r hr => gi.long (kk + r) (by have := HSum.out; omega)) (fun r hr => HD12.out.at HSum.out r hr) (fun r hr => HD12.out.chunk (kk + r) (by have := HSum.out; omega))).mono ?_
                    rintro e w13 ⟨⟨n2, rfl, ho2⟩, hb13⟩
                    have hlv := HT.out.live
                    rw [hlv] at ho2
                    obtain rfl : n2 = n1 - 1 := by have h1 := ho2.1; have h2 := HN1.out; simp only [List.length_drop] at h1; omega
                    have hc1 : ∀ c, c < n1 - 1 → w13.cell? ⟨w11.heap.size, 1 + c, none⟩ = some (.int .i64 (((liveTo L Z fn N 0).drop 1).getD c 0)) := fun c hc => by
                      have := cell_later hb13 (HO1.out.cell (show 1 + c < n1 by omega))
                      rw [this]
                      simp only [List.getD_eq_getElem?_getD, List.getElem?_drop]
                    have hc2 : ∀ c, c < n1 - 1 → w13.cell? ⟨w12.heap.size, 0 + c, none⟩ = some (.int .i64 (((liveTo L Z fn N 0).drop 1).getD c 0)) := fun c hc => by
                      rw [Nat.zero_add]; exact ho2.cell hc
                    have hn1b : n1 - 1 ≤ 131072 := by have := HN1.out; have := HLEN.out.1; omega
                    have R31 : Hid (∀ c1 c2, Calls Try.prog 31 #[.slice (some ⟨w12.heap.size, 0, none⟩) (n1 - 1) c1, .slice (some ⟨w11.heap.size, 1, none⟩) (n1 - 1) c2] w13 fun e w' => e = .returned (.bool true) ∧ ∃ q, w' = w13.drewN q) := fun c1 c2 =>
                      seq31 w12.heap.size 0 c1 w11.heap.size 1 c2 (n1 - 1) _ w13 hn1b hc2 hc1
                    have HB13 : Hid (Below w.heap.size w w13) := HB12.out.trans (hb13.mono HB12.out.size)
                    have hi1 : (1 : Int) ≤ (n1 : Int) := by omega
                    have hi2 : (1 : Int) < (sumL L N : Int) := by omega
                    clear hc1 hc2 ho2 hb13 hlv HD12 HB12
                    go_wp2_with fail
                    refine (R31.out _ _).mono ?_
                    rintro e w14 ⟨rfl, q, rfl⟩
                    go_wp2
                    go_ret
                    exact ⟨rfl, below_drewN HB13.out _⟩
end Go.Proofs.Qxb6603979a
