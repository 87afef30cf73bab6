/-
  THE LAW 'FnSkipStringEndsAtFirstUnescapedDelimiter': its walk.
-/
import Derived.Test.Qxb6600908aWalkB
import Derived.Test.Qxb6600908aWalkD
import Derived.Deep.CutRange
namespace Go.Proofs.Qxb6600908a
open Go.ChangeShapes Go.WideShapes Go.ChangeAt Go.RowKit

/-! ### plain: what the law compares -/
theorem dOf_pre {s : ByteArray} {q : UInt8} {p : Nat} (hp : p < s.size) (hq : s[p] = q) : (List.replicate (dOf s.data.toList q p) q).isPrefixOf (s.data.toList.drop p) = true := by
  unfold dOf
  split
  · assumption
  · rw [drop_at s p hp, hq]
    simp [List.isPrefixOf]
theorem dOf_le {s : ByteArray} {q : UInt8} {p : Nat} (hp : p < s.size) (hq : s[p] = q) : p + dOf s.data.toList q p ≤ s.size := by
  have h := dOf_pre hp hq
  rw [List.isPrefixOf_iff_prefix] at h
  have := h.length_le
  rw [List.length_replicate, List.length_drop, ← Lib.size_eq] at this
  omega
theorem dOf_three {s : ByteArray} {q : UInt8} {p : Nat} (hp : p < s.size) (hq : s[p] = q) :
    dOf s.data.toList q p = if (∃ h : p + 2 < s.size, s[p + 1] = q ∧ s[p + 2] = q) then 3 else 1 := by
  unfold dOf
  congr 1
  rw [pre_step q s p 3 hp (by omega)]
  by_cases h1 : p + 1 < s.size
  · rw [pre_step q s (p + 1) 2 h1 (by omega)]
    by_cases h2 : p + 2 < s.size
    · rw [pre_step q s (p + 1 + 1) 1 h2 (by omega)]
      simp only [hq, beq_self_eq_true, Bool.true_and, eq_iff_iff, Bool.and_eq_true, beq_iff_eq]
      constructor
      · rintro ⟨a, b, _⟩
        exact ⟨h2, a.symm, b.symm⟩
      · rintro ⟨_, a, b⟩
        exact ⟨a.symm, b.symm, rfl⟩
    · have : s.data.toList.drop (p + 1 + 1) = [] := drop_end s _ (by omega)
      rw [this]
      simp only [eq_iff_iff]
      constructor
      · intro h
        simp at h
      · rintro ⟨h, _⟩
        omega
  · have : s.data.toList.drop (p + 1) = [] := drop_end s _ (by omega)
    rw [this]
    simp only [eq_iff_iff]
    constructor
    · intro h
      simp at h
    · rintro ⟨h, _⟩
      omega
/-- What the law found, against what skipString answered. -/
def Fits (s : ByteArray) (q : UInt8) (p d e : Nat) : Prop :=
  p + d + (scan q d (s.data.toList.drop (p + d))).1 = e ∧ (scan q d (s.data.toList.drop (p + d))).2 = nlIn s.data.toList p e ∧ p ≤ e ∧ e ≤ s.size
theorem fits_over {s : ByteArray} {q : UInt8} {p d : Nat} (hq : q ≠ 10) (hp : (List.replicate d q).isPrefixOf (s.data.toList.drop p) = true) (hle : p + d ≤ s.size) (h : Scanned q d s (p + d) s.size) : Fits s q p d s.size := by
  refine ⟨?_, ?_, by omega, Nat.le_refl _⟩
  · rw [h.over (Nat.le_refl _)]; simp only []; omega
  · rw [h.over (Nat.le_refl _), nlIn_add _ p (p + d) s.size (by omega) hle, nlIn_quotes hq hp, Nat.zero_add]
theorem fits_hit {s : ByteArray} {q : UInt8} {p d m n : Nat} (hq : q = 34 ∨ q = 39) (hp : (List.replicate d q).isPrefixOf (s.data.toList.drop p) = true) (hd : 0 < d) (h : Scanned q d s (p + d) m) (hm : m < s.size)
    (hp2 : (List.replicate d q).isPrefixOf (s.data.toList.drop m) = true) (he : escd q s (p + d) m = false) (hn : (if d = 3 then more q 2 (s.data.toList.drop (m + d)) else 0) = n) (hle : m + d + n ≤ s.size) : Fits s q p d (m + d + n) := by
  have hq' : q ≠ 10 := by rcases hq with h | h <;> rw [h] <;> decide
  have hh := h.hit hm hd hq hp2 he
  have h1 := h.1
  refine ⟨?_, ?_, by omega, hle⟩
  · rw [hh, hn]; simp only []; omega
  · rw [hh]
    simp only []
    rw [nlIn_add _ p (p + d) (m + d + n) (by omega) (by omega), nlIn_quotes hq' hp, Nat.zero_add, nlIn_add _ (p + d) m (m + d + n) h1 (by omega), nlIn_add _ m (m + d) (m + d + n) (by omega) (by omega), nlIn_quotes hq' hp2, Nat.zero_add]
    have : nlIn s.data.toList (m + d) (m + d + n) = 0 := by
      rw [← hn]
      split
      · exact nlIn_more hq' _ _ _
      · exact nlIn_self _ _
    omega
theorem nbyte {x y : UInt8} (h : ¬ x = y) : ((x.toNat : Int) != (y.toNat : Int)) = true := by rw [bne, bne_byte h]; rfl

set_option maxRecDepth 100000 in
set_option maxHeartbeats 2000000 in
theorem ea_early (s : ByteArray) (P L : Int) (hs : s.size ≤ maxLen) (w : World) (hP : -9223372036854775808 ≤ P ∧ P ≤ 9223372036854775807)
    (hcase : 1048576 < s.size ∨ P < 0 ∨ (s.size : Int) ≤ P ∨ ∃ p : Nat, P = (p : Int) ∧ ∃ h : p < s.size, s[p] ≠ 34 ∧ s[p] ≠ 39) :
    Calls Try.prog 3 #[.string s, .int .i64 P, .int .i64 L] w fun e w' => e = .returned (.bool true) ∧ Below w.heap.size w w' := by
  have HC : Hid (Calls Try.prog 6 #[.string s, .int .i64 P, .int .i64 L] w fun e w' => Says e ∧ w' = w) := bytes6 s P L w hs
  unfold maxLen at hs
  have hcase2 : (1048576 : Int) < (s.size : Int) ∨ (¬ (1048576 : Int) < (s.size : Int) ∧ P < 0) ∨ (¬ (1048576 : Int) < (s.size : Int) ∧ ¬ P < 0 ∧ (s.size : Int) ≤ P) ∨
      (¬ (1048576 : Int) < (s.size : Int) ∧ ∃ p : Nat, P = (p : Int) ∧ ∃ h : p < s.size, s[p] ≠ 34 ∧ s[p] ≠ 39) := by
    by_cases h1 : (1048576 : Int) < (s.size : Int)
    · exact .inl h1
    · rcases hcase with h | h | h | h
      · omega
      · exact .inr (.inl ⟨h1, h⟩)
      · exact .inr (.inr (.inl ⟨h1, by omega, h⟩))
      · exact .inr (.inr (.inr ⟨h1, h⟩))
  clear hcase
  rcases hcase2 with h1 | ⟨h1, h2⟩ | ⟨h1, h2, h3⟩ | ⟨h1, p, rfl, hp, k1, k2⟩
  case inr.inr.inr =>
    have hp' : (p : Int) < (s.size : Int) := by omega
    obtain ⟨x, hx⟩ : ∃ x, s[p] = x := ⟨_, rfl⟩
    rw [hx] at k1 k2
    have e1 : ((x.toNat : Int) != 34) = true := nbyte k1
    have e2 : ((x.toNat : Int) != 39) = true := nbyte k2
    clear k1 k2
    go_enter Try.func3, Try.ntmps3
    go_wp2_with fail
    refine HC.out.mono ?_
    rintro e wx ⟨⟨ok, rfl⟩, hw⟩
    obtain rfl := hw.symm
    cases ok with
    | false =>
      go_wp2
      go_ret
      exact ⟨rfl, Below.refl _ _⟩
    | true =>
      go_wp2
      go_ret
      exact ⟨rfl, Below.refl _ _⟩
  all_goals
    go_enter Try.func3, Try.ntmps3
    go_wp2_with fail
    refine HC.out.mono ?_
    rintro e wx ⟨⟨ok, rfl⟩, hw⟩
    obtain rfl := hw.symm
    cases ok with
    | false =>
      go_wp2
      go_ret
      exact ⟨rfl, Below.refl _ _⟩
    | true =>
      go_wp2
      go_ret
      exact ⟨rfl, Below.refl _ _⟩

set_option maxRecDepth 100000 in
set_option maxHeartbeats 4000000 in
theorem ea_main (s : ByteArray) (p : Nat) (L : Int) (hs : s.size ≤ 1048576) (hp : p < s.size) (hq2 : s[p] = 34 ∨ s[p] = 39) (wL : (Lit.int .i64 L).wf = true) (w : World) :
    Calls Try.prog 3 #[.string s, .int .i64 (p : Int), .int .i64 L] w fun e w' => e = .returned (.bool true) ∧ Below w.heap.size w w' := by
  have HC : Hid (Calls Try.prog 6 #[.string s, .int .i64 (p : Int), .int .i64 L] w fun e w' => Says e ∧ w' = w) := bytes6 s p L w (by unfold maxLen; omega)
  obtain ⟨q, hq⟩ : ∃ q, s[p] = q := ⟨_, rfl⟩
  have HQ2 : Hid (q = 34 ∨ q = 39) := by rw [hq] at hq2; exact hq2
  clear hq2
  have HZ7 : Hid (Calls Try.prog 7 #[.string s, .int .i64 (p : Int), .int .i64 L] w fun e w' => Told e s p q L ∧ Below w.heap.size w w') := zz7 s p q L w (by omega) hp hq wL
  have g1 : ¬ (1048576 : Int) < (s.size : Int) := by omega
  have g2 : ¬ (p : Int) < 0 := by omega
  have g3 : ¬ (s.size : Int) ≤ (p : Int) := by omega
  have g3' : (p : Int) < (s.size : Int) := by omega
  have HD3 := dOf_three hp hq
  have HDP := dOf_pre hp hq
  have HDL := dOf_le hp hq
  obtain ⟨d, hd⟩ : ∃ d, Hid (dOf s.data.toList q p = d) := ⟨_, rfl⟩
  rw [hd.out] at HD3 HDP HDL
  obtain ⟨t, ht⟩ : ∃ t : Bool, Hid (((∃ h : p + 2 < s.size, s[p + 1] = q ∧ s[p + 2] = q) → t = true) ∧ ((¬ ∃ h : p + 2 < s.size, s[p + 1] = q ∧ s[p + 2] = q) → t = false) ∧ d = if t then 3 else 1) := by
    by_cases h : ∃ h : p + 2 < s.size, s[p + 1] = q ∧ s[p + 2] = q
    · exact ⟨true, fun _ => rfl, fun h' => absurd h h', by rw [HD3, if_pos h]; rfl⟩
    · exact ⟨false, fun h' => absurd h' h, fun _ => rfl, by rw [HD3, if_neg h]; rfl⟩
  have HT : Hid (d = if t then 3 else 1) := ht.out.2.2
  have HPre : Hid ((List.replicate d q).isPrefixOf (s.data.toList.drop p) = true) := HDP
  clear HD3 HDP
  have hqcase : (((q.toNat : Int) != 34) = false) ∨ (((q.toNat : Int) != 34) = true ∧ ((q.toNat : Int) != 39) = false) := by
    rcases HQ2.out with h | h
    · left; rw [h]; rfl
    · right; rw [h]; exact ⟨rfl, rfl⟩
  go_enter Try.func3, Try.ntmps3
  go_wp2_with fail
  refine HC.out.mono ?_
  rintro e wx ⟨⟨ok, rfl⟩, hw⟩
  obtain rfl := hw.symm
  clear HC
  cases ok with
  | false =>
    go_wp2
    go_ret
    exact ⟨rfl, Below.refl _ _⟩
  | true =>
    go_upto_region 8 with fail
    go_cut [39] from 34 to 39 (fun v wc => v = .bool false ∧ wc = w)
    case first =>
      rcases hqcase with e1 | ⟨e1, e2⟩
      all_goals
        go_wp2
        go_meet
        case rel => exact ⟨rfl, rfl⟩
    case rest =>
      clear hqcase
      obtain ⟨rfl, hwc⟩ := hcut
      obtain rfl := hwc.symm
      clear hwc
      go_wp2_with fail
      refine HZ7.out.mono ?_
      rintro e x1 ⟨⟨d', hd', he⟩, hb1⟩
      rw [hd.out] at hd'
      subst hd'
      obtain ⟨Z, hZ⟩ : ∃ Z : Int, Hid (((p + d' + (scan q d' (s.data.toList.drop (p + d'))).1 : Nat) : Int) = Z) := ⟨_, rfl⟩
      obtain ⟨V, hV⟩ : ∃ V : Int, Hid (wrap64 (L + ((scan q d' (s.data.toList.drop (p + d'))).2 : Nat)) = V) := ⟨_, rfl⟩
      rw [hZ.out, hV.out] at he
      subst he
      have B1 : Hid (Below w.heap.size w x1) := hb1
      clear hb1 HZ7
      have ht1 : Hid (((∃ h : p + 2 < s.size, s[p + 1] = q ∧ s[p + 2] = q) → t = true) ∧ ((¬ ∃ h : p + 2 < s.size, s[p + 1] = q ∧ s[p + 2] = q) → t = false)) := ⟨ht.out.1, ht.out.2.1⟩
      have hd13 : d' = 1 ∨ d' = 3 := by have := HT.out; cases t with | true => exact .inr this | false => exact .inl this
      have hd0 : 0 < d' ∧ d' ≤ 3 := by omega
      have HD13 : Hid (d' = 1 ∨ d' = 3) := hd13
      have hpd : (p : Int) + (d' : Int) ≤ (s.size : Int) := by omega
      clear ht hd13 hd wL
      go_upto_region 12 with fail
      go_cut [67] from 47 to 67 (fun v wc => v = .bool t ∧ wc = x1)
      case first =>
        by_cases k0 : p + 2 < s.size
        · have e0 : (p : Int) + 2 < (s.size : Int) := by omega
          have e0' : (p : Int) + 1 < (s.size : Int) := by omega
          obtain ⟨y, hy⟩ : ∃ y, s[p + 1] = y := ⟨_, rfl⟩
          obtain ⟨z, hz⟩ : ∃ z, s[p + 2] = z := ⟨_, rfl⟩
          by_cases k1 : y = q
          · have e1 : ((y.toNat : Int) == (q.toNat : Int)) = true := by rw [k1]; simp
            by_cases k2 : z = q
            · have e2 : ((z.toNat : Int) == (q.toNat : Int)) = true := by rw [k2]; simp
              have e3 : Hid (t = true) := ht1.out.1 ⟨k0, hy.trans k1, hz.trans k2⟩
              clear k1 k2
              go_wp2
              go_meet
              case rel => exact ⟨by rw [e3.out], rfl⟩
            · have e2 : ((z.toNat : Int) == (q.toNat : Int)) = false := bne_byte k2
              have e3 : Hid (t = false) := ht1.out.2 (fun ⟨_, _, h⟩ => k2 (hz.symm.trans h))
              clear k1 k2
              go_wp2
              go_meet
              case rel => exact ⟨by rw [e3.out], rfl⟩
          · have e1 : ((y.toNat : Int) == (q.toNat : Int)) = false := bne_byte k1
            have e3 : Hid (t = false) := ht1.out.2 (fun ⟨_, h, _⟩ => k1 (hy.symm.trans h))
            clear k1
            go_wp2
            go_meet
            case rel => exact ⟨by rw [e3.out], rfl⟩
        · have e0 : ¬ (p : Int) + 2 < (s.size : Int) := by omega
          have e3 : Hid (t = false) := ht1.out.2 (fun ⟨h, _⟩ => k0 h)
          go_wp2
          go_meet
          case rel => exact ⟨by rw [e3.out], rfl⟩
      case rest =>
        obtain ⟨rfl, hwc⟩ := hcut
        obtain rfl := hwc.symm
        clear hwc ht1
        go_upto_if 67 with (fail)
        go_cut [10] from 10 to 10 (fun v wc => v = .int .i64 (d' : Int) ∧ wc = x1)
        case first =>
          cases t with
          | true =>
            go_wp2
            go_meet
            case rel => exact ⟨by rw [HT.out]; rfl, rfl⟩
          | false =>
            go_wp2
            go_meet
            case rel => exact ⟨by rw [HT.out]; rfl, rfl⟩
        case rest =>
          obtain ⟨rfl, hwc⟩ := hcut
          obtain rfl := hwc.symm
          clear hwc HT
          go_wp2
          go_loop [12, 13, 14] (fun e i _ => ∃ m : Nat, i = .int .i64 (m : Int) ∧ m ≤ s.size ∧ e = .int .i64 (s.size : Int) ∧ p + d' ≤ m ∧ Hid (Scanned q d' s (p + d') m)) (fun _ i _ => s.size - (intOf i).toNat)
          case atStart => exact ⟨p + d', by go_num, HDL, rfl, Nat.le_refl _, Scanned.start _ _ _ _⟩
          case round =>
            obtain ⟨m, rfl, hm, rfl, hpm, HSc⟩ := hrel
            by_cases hlt : m < s.size
            · have hlt' : (m : Int) < (s.size : Int) := by omega
              obtain ⟨t8, h8⟩ : ∃ t8, Hid ((List.replicate d' q).isPrefixOf (s.data.toList.drop m) = t8) := ⟨_, rfl⟩
              have R8 : Hid (Calls Try.prog 8 #[.string s, .int .i64 (m : Int), .int .i64 (d' : Int), .int .u8 (q.toNat : Int)] x1 fun e w' => e = .returned (.bool t8) ∧ w' = x1) := by
                have := quotes8 s m d' q x1 (by omega) hm hd0.2
                rw [h8.out] at this
                exact this
              go_wp2_with fail
              refine R8.out.mono ?_
              rintro e w1 ⟨rfl, hw1⟩
              obtain rfl := hw1.symm
              clear R8
              cases t8 with
              | false =>
                have HS2 : Hid (Scanned q d' s (p + d') (m + 1)) := HSc.out.on hlt (.inl h8.out)
                clear HSc h8
                go_wp2
                go_round
                case rel => exact ⟨m + 1, by go_num, by omega, rfl, by omega, HS2⟩
                case measure => simp [intOf]; omega
              | true =>
                obtain ⟨es, hes⟩ : ∃ es, Hid (escd q s (p + d') m = es) := ⟨_, rfl⟩
                go_upto_region 20 with fail
                go_cut [95] from 86 to 95 (fun v wc => v = .bool es ∧ wc = x1)
                case first =>
                  by_cases hq34 : q = 34
                  · have e1 : ((q.toNat : Int) == 34) = true := by rw [hq34]; rfl
                    obtain ⟨N9, h9⟩ : ∃ N9, Hid (bsl s (p + d') m = N9) := ⟨_, rfl⟩
                    have R9 : Hid (Calls Try.prog 9 #[.string s, .int .i64 ((p : Int) + (d' : Int)), .int .i64 (m : Int)] x1 fun e w' => e = .returned (.int .i64 (N9 : Int)) ∧ w' = x1) := by
                      have := before9 s (p + d') m x1 (by omega) hlt hpm
                      rw [h9.out] at this
                      exact this
                    have HE : Hid (es = decide (N9 % 2 = 1)) := by
                      show _ = _
                      rw [← hes.out, ← h9.out]
                      unfold escd
                      simp [hq34]
                    have hN9 : N9 ≤ 1048576 := by have := bsl_le s (p + d') m; have := h9.out; omega
                    clear hq34 h9 hes
                    go_wp2_with fail
                    refine R9.out.mono ?_
                    rintro e w1 ⟨rfl, hw1⟩
                    obtain rfl := hw1.symm
                    clear R9
                    by_cases ho : N9 % 2 = 1
                    · have e2 : ((N9 : Int) % 2 == 1) = true := beq_iff_eq.2 (by omega)
                      have e3 : Hid (es = true) := by show _ = _; rw [HE.out]; exact decide_eq_true ho
                      clear ho HE
                      go_wp2
                      go_meet
                      case rel => exact ⟨by rw [e3.out], rfl⟩
                    · have e2 : ((N9 : Int) % 2 == 1) = false := beq_false_of_ne (by omega)
                      have e3 : Hid (es = false) := by show _ = _; rw [HE.out]; exact decide_eq_false ho
                      clear ho HE
                      go_wp2
                      go_meet
                      case rel => exact ⟨by rw [e3.out], rfl⟩
                  · have e1 : ((q.toNat : Int) == 34) = false := bne_byte hq34
                    have e3 : Hid (es = false) := by
                      show _ = _
                      rw [← hes.out]
                      unfold escd
                      exact decide_eq_false (fun h => hq34 h.1)
                    clear hq34 hes
                    go_wp2
                    go_meet
                    case rel => exact ⟨by rw [e3.out], rfl⟩
                case rest =>
                  obtain ⟨rfl, hwc⟩ := hcut
                  obtain rfl := hwc.symm
                  clear hwc
                  cases es with
                  | true =>
                    have HS2 : Hid (Scanned q d' s (p + d') (m + 1)) := HSc.out.on hlt (.inr hes.out)
                    clear HSc h8 hes
                    go_wp2
                    go_round
                    case rel => exact ⟨m + 1, by go_num, by omega, rfl, by omega, HS2⟩
                    case measure => simp [intOf]; omega
                  | false =>
                    have hmd : m + d' ≤ s.size := by
                      have := h8.out
                      rw [List.isPrefixOf_iff_prefix] at this
                      have := this.length_le
                      rw [List.length_replicate, List.length_drop, ← Lib.size_eq] at this
                      omega
                    have HHit : Hid (∀ n, (if d' = 3 then more q 2 (s.data.toList.drop (m + d')) else 0) = n → m + d' + n ≤ s.size → Fits s q p d' (m + d' + n)) := fun n h1 h2 => fits_hit HQ2.out HPre.out hd0.1 HSc.out hlt h8.out hes.out h1 h2
                    clear HSc h8 hes
                    by_cases hd3 : d' = 3
                    · have e5 : ((d' : Int) == 3) = true := by rw [hd3]; rfl
                      have HD3 : Hid (d' = 3) := hd3
                      clear hd3
                      go_wp2
                      go_loop [12, 14] (fun e k => ∃ n E : Nat, k = .int .i64 (n : Int) ∧ n ≤ 2 ∧ e = .int .i64 (E : Int) ∧ E ≤ s.size ∧ Hid (E = m + d' + n) ∧ Hid (MoreIs q d' s.data.toList (m + d') n)) (fun _ k => 2 - (intOf k).toNat)
                      case atStart => exact ⟨0, m + d', rfl, by omega, by go_num, hmd, rfl, MoreIs.start _ _ _ _⟩
                      case round =>
                        obtain ⟨n, E, rfl, hn, rfl, hEs, hE, HM⟩ := hrel
                        by_cases hgo : n < 2 ∧ ∃ h : E < s.size, s[E] = q
                        · obtain ⟨hn2, hEl, hz⟩ := hgo
                          have HM2 : Hid (MoreIs q d' s.data.toList (m + d') (n + 1)) := by
                            have h := hE.out
                            subst h
                            exact HM.out.on HD3.out hn2 hEl hz
                          have e6 : (n : Int) < 2 := by omega
                          have e7 : (E : Int) < (s.size : Int) := by omega
                          clear HM
                          go_wp2
                          go_round
                          case rel => exact ⟨n + 1, E + 1, by go_num, by omega, by go_num, by omega, by show _ = _; rw [hE.out]; rfl, HM2⟩
                          case measure => simp [intOf]; omega
                        · have HF : Hid (Fits s q p d' E) := by
                            have h := hE.out
                            subst h
                            exact HHit.out n (HM.out.stop (fun _ h2 h3 h4 => hgo ⟨h2, h3, h4⟩)) hEs
                          obtain ⟨N, hN⟩ : ∃ N : Nat, Hid (nlIn s.data.toList p E = N) := ⟨_, rfl⟩
                          clear HM HHit
                          by_cases hn2 : n < 2
                          · have e6 : (n : Int) < 2 := by omega
                            by_cases hEl : E < s.size
                            · have e7 : (E : Int) < (s.size : Int) := by omega
                              obtain ⟨z, hz⟩ : ∃ z, s[E] = z := ⟨_, rfl⟩
                              have e8 : ((z.toNat : Int) == (q.toNat : Int)) = false := bne_byte (fun h => hgo ⟨hn2, hEl, hz.trans h⟩)
                              clear hgo
                              have hZe : Z = (E : Int) := by rw [← hZ.out, HF.out.1]
                              have hVe : V = wrap64 (L + (N : Int)) := by rw [← hV.out, HF.out.2.1, hN.out]
                              have R10 : Hid (Calls Try.prog 10 #[.string s, .int .i64 (p : Int), .int .i64 (E : Int)] x1 fun e w' => e = .returned (.int .i64 (N : Int)) ∧ w' = x1) := by
                                have := count10 s p E x1 HF.out.2.2.1 HF.out.2.2.2 (by omega)
                                rw [hN.out] at this
                                exact this
                              clear HF hN hZ hV
                              subst hZe
                              subst hVe
                              go_wp2_with fail
                              refine R10.out.mono ?_
                              rintro e w1 ⟨rfl, hw1⟩
                              obtain rfl := hw1.symm
                              go_wp2
                              go_ret
                              exact ⟨rfl, B1.out⟩
                            · have e7 : ¬ (E : Int) < (s.size : Int) := by omega
                              clear hgo
                              have hZe : Z = (E : Int) := by rw [← hZ.out, HF.out.1]
                              have hVe : V = wrap64 (L + (N : Int)) := by rw [← hV.out, HF.out.2.1, hN.out]
                              have R10 : Hid (Calls Try.prog 10 #[.string s, .int .i64 (p : Int), .int .i64 (E : Int)] x1 fun e w' => e = .returned (.int .i64 (N : Int)) ∧ w' = x1) := by
                                have := count10 s p E x1 HF.out.2.2.1 HF.out.2.2.2 (by omega)
                                rw [hN.out] at this
                                exact this
                              clear HF hN hZ hV
                              subst hZe
                              subst hVe
                              go_wp2_with fail
                              refine R10.out.mono ?_
                              rintro e w1 ⟨rfl, hw1⟩
                              obtain rfl := hw1.symm
                              go_wp2
                              go_ret
                              exact ⟨rfl, B1.out⟩
                          · have e6 : ¬ (n : Int) < 2 := by omega
                            clear hgo
                            have hZe : Z = (E : Int) := by rw [← hZ.out, HF.out.1]
                            have hVe : V = wrap64 (L + (N : Int)) := by rw [← hV.out, HF.out.2.1, hN.out]
                            have R10 : Hid (Calls Try.prog 10 #[.string s, .int .i64 (p : Int), .int .i64 (E : Int)] x1 fun e w' => e = .returned (.int .i64 (N : Int)) ∧ w' = x1) := by
                              have := count10 s p E x1 HF.out.2.2.1 HF.out.2.2.2 (by omega)
                              rw [hN.out] at this
                              exact this
                            clear HF hN hZ hV
                            subst hZe
                            subst hVe
                            go_wp2_with fail
                            refine R10.out.mono ?_
                            rintro e w1 ⟨rfl, hw1⟩
                            obtain rfl := hw1.symm
                            go_wp2
                            go_ret
                            exact ⟨rfl, B1.out⟩
                    · have e5 : ((d' : Int) == 3) = false := beq_false_of_ne (by omega)
                      have HF0 : Fits s q p d' (m + d' + 0) := HHit.out 0 (by rw [if_neg hd3]) (by omega)
                      obtain ⟨E, hE⟩ : ∃ E : Nat, m + d' = E := ⟨_, rfl⟩
                      rw [Nat.add_zero, hE] at HF0
                      have HF : Hid (Fits s q p d' E) := HF0
                      have hEc : (m : Int) + (d' : Int) = (E : Int) := by omega
                      obtain ⟨N, hN⟩ : ∃ N : Nat, Hid (nlIn s.data.toList p E = N) := ⟨_, rfl⟩
                      clear HHit hd3 hE HF0
                      have hZe : Z = (E : Int) := by rw [← hZ.out, HF.out.1]
                      have hVe : V = wrap64 (L + (N : Int)) := by rw [← hV.out, HF.out.2.1, hN.out]
                      have R10 : Hid (Calls Try.prog 10 #[.string s, .int .i64 (p : Int), .int .i64 (E : Int)] x1 fun e w' => e = .returned (.int .i64 (N : Int)) ∧ w' = x1) := by
                        have := count10 s p E x1 HF.out.2.2.1 HF.out.2.2.2 (by omega)
                        rw [hN.out] at this
                        exact this
                      clear HF hN hZ hV
                      subst hZe
                      subst hVe
                      go_wp2_with fail
                      refine R10.out.mono ?_
                      rintro e w1 ⟨rfl, hw1⟩
                      obtain rfl := hw1.symm
                      go_wp2
                      go_ret
                      exact ⟨rfl, B1.out⟩
            · have hlt' : ¬ (m : Int) < (s.size : Int) := by omega
              obtain ⟨E, hE⟩ : ∃ E : Nat, s.size = E := ⟨_, rfl⟩
              have HF : Hid (Fits s q p d' E) := by
                rw [← hE]
                have hms : m = s.size := by omega
                have := HSc.out
                rw [hms] at this
                exact fits_over (by rcases HQ2.out with h | h <;> rw [h] <;> decide) HPre.out (by omega) this
              have hEc : (s.size : Int) = (E : Int) := by omega
              obtain ⟨N, hN⟩ : ∃ N : Nat, Hid (nlIn s.data.toList p E = N) := ⟨_, rfl⟩
              clear HSc hE
              have hZe : Z = (E : Int) := by rw [← hZ.out, HF.out.1]
              have hVe : V = wrap64 (L + (N : Int)) := by rw [← hV.out, HF.out.2.1, hN.out]
              have R10 : Hid (Calls Try.prog 10 #[.string s, .int .i64 (p : Int), .int .i64 (E : Int)] x1 fun e w' => e = .returned (.int .i64 (N : Int)) ∧ w' = x1) := by
                have := count10 s p E x1 HF.out.2.2.1 HF.out.2.2.2 (by omega)
                rw [hN.out] at this
                exact this
              clear HF hN hZ hV
              subst hZe
              subst hVe
              go_wp2_with fail
              refine R10.out.mono ?_
              rintro e w1 ⟨rfl, hw1⟩
              obtain rfl := hw1.symm
              go_wp2
              go_ret
              exact ⟨rfl, B1.out⟩

theorem bare3 (s : ByteArray) (P L : Int) (hs : s.size ≤ maxLen) (wP : (Lit.int .i64 P).wf = true) (wL : (Lit.int .i64 L).wf = true) (w : World) :
    Calls Try.prog 3 #[.string s, .int .i64 P, .int .i64 L] w fun e w' => e = .returned (.bool true) ∧ Below w.heap.size w w' := by
  have hP : -9223372036854775808 ≤ P ∧ P ≤ 9223372036854775807 := by
    simp only [Lit.wf, IntKind.min, IntKind.max, IntKind.signed, IntKind.bits, Bool.and_eq_true, decide_eq_true_eq, if_true] at wP
    omega
  by_cases hcase : 1048576 < s.size ∨ P < 0 ∨ (s.size : Int) ≤ P ∨ ∃ p : Nat, P = (p : Int) ∧ ∃ h : p < s.size, s[p] ≠ 34 ∧ s[p] ≠ 39
  · exact ea_early s P L hs w hP hcase
  · obtain ⟨p, rfl⟩ : ∃ p : Nat, P = (p : Int) := ⟨P.toNat, by omega⟩
    have hp : p < s.size := by omega
    refine ea_main s p L (by omega) hp ?_ wL w
    by_cases h1 : s[p] = 34
    · exact .inl h1
    · by_cases h2 : s[p] = 39
      · exact .inr h2
      · exact absurd (.inr (.inr (.inr ⟨p, rfl, hp, h1, h2⟩))) hcase
end Go.Proofs.Qxb6600908a
