/-
  THE LAW 'FnSkipStringRoundTripsAnEncodedBody': its walk.
-/
import Derived.Test.Qxb6600908aWalkC
import Derived.Test.Qxb6600908aWalkD
import Derived.Deep.CutRange
namespace Go.Proofs.Qxb6600908a
open Go.ChangeShapes Go.WideShapes Go.ChangeAt Go.RowKit

theorem told_enc {basic : Bool} {q : UInt8} {pre body E suf : List UInt8} {S : ByteArray} {L : Int} {e : Ending} (h : Encoded basic q body E) (hs : body = [] → ∀ r, suf ≠ q :: r)
    (hS : S.data.toList = pre ++ q :: (E ++ q :: suf)) (ht : Told e S pre.length q L) :
    e = .returned (.tuple #[.int .i64 ((pre.length + 1 + E.length + 1 : Nat) : Int), .int .i64 (wrap64 (L + (nl body : Nat)))]) := by
  obtain ⟨d, hd, he⟩ := ht
  have h1 : d = 1 := by rw [hd, hS]; exact h.one hs
  subst h1
  have h2 : S.data.toList.drop (pre.length + 1) = E ++ q :: suf := by
    rw [hS, ← List.drop_drop, List.drop_left]; rfl
  rw [he, h2, h.scan, Nat.add_assoc (pre.length + 1)]

/-- The literal's byte at its place. -/
theorem enc_at {q : UInt8} {pre rest : List UInt8} {S : ByteArray} (hS : S.data.toList = pre ++ q :: rest) : ∃ h : pre.length < S.size, S[pre.length] = q := by
  have hl : pre.length < S.size := by rw [Lib.size_eq, hS]; simp
  refine ⟨hl, ?_⟩
  have h1 := drop_at S pre.length hl
  rw [hS, List.drop_left] at h1
  injection h1 with h1 _
  exact h1.symm

set_option maxRecDepth 100000 in
set_option maxHeartbeats 2000000 in
theorem rt_early (a0 a1 a2 : ByteArray) (a3 : Bool) (a4 : Int) (w0 : a0.size ≤ maxLen) (w1 : a1.size ≤ maxLen) (w2 : a2.size ≤ maxLen) (w : World)
    (hsz : 1048576 < a0.size ∨ 1048576 < a1.size ∨ 1048576 < a2.size ∨ 1048576 < a0.size + a1.size + a2.size) :
    Calls Try.prog 4 #[.string a0, .string a1, .string a2, .bool a3, .int .i64 a4] w fun e w' => e = .returned (.bool true) ∧ Below w.heap.size w w' := by
  have C11 := bytes11 a0 a1 a2 a3 a4 w w0 w1 w2
  unfold maxLen at w0 w1 w2
  have HC : Hid (Calls Try.prog 11 #[.string a0, .string a1, .string a2, .bool a3, .int .i64 a4] w fun e w' => Says e ∧ w' = w) := C11
  clear C11
  have hcase : (1048576 : Int) < (a0.size : Int) ∨ (¬ (1048576 : Int) < (a0.size : Int) ∧ (1048576 : Int) < (a1.size : Int)) ∨ (¬ (1048576 : Int) < (a0.size : Int) ∧ ¬ (1048576 : Int) < (a1.size : Int) ∧ (1048576 : Int) < (a2.size : Int)) ∨
      (¬ (1048576 : Int) < (a0.size : Int) ∧ ¬ (1048576 : Int) < (a1.size : Int) ∧ ¬ (1048576 : Int) < (a2.size : Int) ∧ (1048576 : Int) < (a0.size : Int) + (a1.size : Int) + (a2.size : Int)) := by omega
  clear hsz
  rcases hcase with h1 | ⟨h1, h2⟩ | ⟨h1, h2, h3⟩ | ⟨h1, h2, h3, h4⟩
  all_goals
    go_enter Try.func4, Try.ntmps4
    go_wp2_with fail
    refine HC.out.mono ?_
    rintro e wx ⟨⟨ok, rfl⟩, hw⟩
    obtain rfl := hw.symm
    cases ok with
    | false =>
      go_wp2
      go_ret
      exact ⟨rfl, Below.refl _ _⟩
    | true =>
      go_wp2
      go_ret
      exact ⟨rfl, Below.refl _ _⟩

set_option maxRecDepth 100000 in
set_option maxHeartbeats 2000000 in
theorem rt_basic (a0 a1 a2 : ByteArray) (a4 : Int) (h0 : a0.size ≤ 1048576) (h1 : a1.size ≤ 1048576) (h2 : a2.size ≤ 1048576) (hsum : a0.size + a1.size + a2.size ≤ 1048576) (w4 : (Lit.int .i64 a4).wf = true) (w : World) :
    Calls Try.prog 4 #[.string a0, .string a1, .string a2, .bool true, .int .i64 a4] w fun e w' => e = .returned (.bool true) ∧ Below w.heap.size w w' := by
  obtain ⟨i0, hi, hz0, hz1, hz2⟩ := info_parts Try.info5'
  have HC : Hid (Calls Try.prog 11 #[.string a0, .string a1, .string a2, .bool true, .int .i64 a4] w fun e w' => Says e ∧ w' = w) := bytes11 a0 a1 a2 true a4 w (by unfold maxLen; omega) (by unfold maxLen; omega) (by unfold maxLen; omega)
  have HW4 : Hid ((Lit.int .i64 a4).wf = true) := w4
  have g0 : ¬ (1048576 : Int) < (a0.size : Int) := by omega
  have g1 : ¬ (1048576 : Int) < (a1.size : Int) := by omega
  have g2 : ¬ (1048576 : Int) < (a2.size : Int) := by omega
  have g3 : ¬ (1048576 : Int) < (a0.size : Int) + (a1.size : Int) + (a2.size : Int) := by omega
  clear w4
  go_enter Try.func4, Try.ntmps4
  go_wp2_with fail
  refine HC.out.mono ?_
  rintro e wx ⟨⟨ok, rfl⟩, hw⟩
  obtain rfl := hw.symm
  clear HC
  cases ok with
  | false =>
    go_wp2
    go_ret
    exact ⟨rfl, Below.refl _ _⟩
  | true =>
    by_cases hg : a1.size = 0 ∧ ∃ h : 0 < a2.size, a2[0] = 34
    · obtain ⟨k1, k2, k3⟩ := hg
      have e1 : ((a1.size : Int) == 0) = true := by rw [k1]; rfl
      have e2 : (0 : Int) < (a2.size : Int) := by omega
      clear k1
      go_wp2
      go_ret
      exact ⟨rfl, Below.refl _ _⟩
    · have HS : Hid (a1.data.toList = [] → ∀ r, a2.data.toList ≠ 34 :: r) := by
        intro k1 r k2
        have l1 : a1.size = 0 := by rw [Lib.size_eq, k1]; rfl
        have l2 : 0 < a2.size := by rw [Lib.size_eq, k2]; simp
        refine hg ⟨l1, l2, ?_⟩
        have := drop_at a2 0 l2
        rw [List.drop_zero, k2] at this
        injection this with t1 _
        exact t1.symm
      have hcase : ((a1.size : Int) == 0) = false ∨ (((a1.size : Int) == 0) = true ∧ ¬ (0 : Int) < (a2.size : Int)) ∨ (((a1.size : Int) == 0) = true ∧ (0 : Int) < (a2.size : Int) ∧ ∃ h : 0 < a2.size, ((a2[0].toNat : Int) == 34) = false) := by
        by_cases k1 : a1.size = 0
        · have e1 : ((a1.size : Int) == 0) = true := by rw [k1]; rfl
          by_cases k2 : 0 < a2.size
          · exact .inr (.inr ⟨e1, by omega, k2, bne_byte (fun h => hg ⟨k1, k2, h⟩)⟩)
          · exact .inr (.inl ⟨e1, by omega⟩)
        · exact .inl (beq_false_of_ne (by omega))
      clear hg
      obtain ⟨T, hT⟩ : ∃ T : Nat, Hid (a0.size + 2 * a1.size + a2.size + 2 = T) := ⟨_, rfl⟩
      have hTc : (a0.size : Int) + 2 * (a1.size : Int) + (a2.size : Int) + 2 = (T : Int) := by have := hT.out; omega
      have hT3 : T ≤ 4194304 := by have := hT.out; omega
      have hel := enc_len a1.data.toList
      rw [← Lib.size_eq] at hel
      have HEL : Hid ((enc a1.data.toList).length ≤ 2 * a1.size) := hel
      clear hel
      go_upto_region 16 with fail
      go_cut [72] from 59 to 72 (fun v wc => v = .bool false ∧ wc = w)
      case first =>
        rcases hcase with e1 | ⟨e1, e2⟩ | ⟨e1, e2, e3, e4⟩
        all_goals
          go_wp2
          go_meet
          case rel => exact ⟨rfl, rfl⟩
      case rest =>
        clear hcase
        obtain ⟨rfl, hwc⟩ := hcut
        obtain rfl := hwc.symm
        clear hwc
        go_wp2_with (at_make; refine wpList_make_own _ rfl _ _ 28 rfl w.heap.size 5 i0 (.int .u8 0) 1 Try.underlying28 hi hz0 hz1 _ _ _ T rfl rfl (by omega) ?b2 ?b3 (Nat.le_refl _) ?_)
        case b2 => first | omega | (rw [hz2]; omega)
        case b3 => unfold maxLen; omega
        intro x0 hown0 hgrow0
        have H0 : Hid (Buf x0 w.heap.size w.heap.size T 0 []) := ⟨rfl, by simpa [cellsU8] using hown0⟩
        have B0 : Hid (Below w.heap.size w x0) := (Below.refl _ _).grown hgrow0 (Nat.le_refl _) (fun k h => by cases h)
        clear hown0 hgrow0
        go_upto_region 20 with (at_builtin; refine Lib.wpList_append_fits_string _ rfl (.tmp 84) (.tmp 85) 28 9 rfl w.heap.size 5 i0 Try.underlying28 Try.underlying9 hi hz1 (some ⟨w.heap.size, 0, none⟩) 0 T _ rfl H0.out.2 a0 rfl (by have := hT.out; omega) (by have := hT.out; omega) ?_; intro x1 hown1 hgrow1)
        have H1 : Hid (Buf x1 w.heap.size w.heap.size T a0.size a0.data.toList) := by
          have := (H0.out.str B0.out a0 hown1 hgrow1).1
          rw [Nat.zero_add, List.nil_append] at this
          exact this
        have B1 : Hid (Below w.heap.size w x1) := (H0.out.str B0.out a0 hown1 hgrow1).2
        clear hown1 hgrow1 H0 B0
        go_upto_region 21 with (at_builtin; refine wpList_append_fits _ rfl (.tmp 87) (.tmp 89) 28 rfl w.heap.size 5 i0 1 Try.underlying28 hi hz1 w.heap.size a0.size T _ rfl (H1.out.2.alloc _) ⟨x1.heap.size, 0, none⟩ 1 1 [.int .u8 34] rfl rfl (one_new _ _ _) (by intro u hu; simp at hu; subst hu; rfl) (by have := hT.out; omega) ?_; intro x2 hown2 hgrow2)
        have H2 : Hid (Buf x2 w.heap.size w.heap.size T (a0.size + 1) (a0.data.toList ++ [34])) := (H1.out.one B1.out 34 hown2 hgrow2).1
        have B2 : Hid (Below w.heap.size w x2) := (H1.out.one B1.out 34 hown2 hgrow2).2
        clear hown2 hgrow2 H1 B1
        go_wp2_with fail
        refine (append12 a1 w.heap.size w.heap.size T (a0.size + 1) _ x2 h1 H2.out (by have := hT.out; have := HEL.out; omega)).mono ?_
        rintro e x3 ⟨⟨n3, rfl, H3'⟩, hb3⟩
        have H3 : Hid (Buf x3 w.heap.size w.heap.size T n3 (a0.data.toList ++ [34] ++ enc a1.data.toList)) := H3'
        have B3 : Hid (Below w.heap.size w x3) := B2.out.trans hb3
        clear H3' hb3 H2 B2
        have hn3 : Hid (n3 = a0.size + 1 + (enc a1.data.toList).length) := by
          show _ = _
          rw [H3.out.1, List.length_append, List.length_append, ← Lib.size_eq]; rfl
        have hr3 : n3 + 1 + a2.size ≤ T := by have := hT.out; have := HEL.out; have := hn3.out; omega
        go_upto_region 25 with (at_builtin; refine wpList_append_fits _ rfl (.tmp 98) (.tmp 100) 28 rfl w.heap.size 5 i0 1 Try.underlying28 hi hz1 w.heap.size n3 T _ rfl (H3.out.2.alloc _) ⟨x3.heap.size, 0, none⟩ 1 1 [.int .u8 34] rfl rfl (one_new _ _ _) (by intro u hu; simp at hu; subst hu; rfl) (by omega) ?_; intro x4 hown4 hgrow4)
        have H4 : Hid (Buf x4 w.heap.size w.heap.size T (n3 + 1) (a0.data.toList ++ [34] ++ enc a1.data.toList ++ [34])) := (H3.out.one B3.out 34 hown4 hgrow4).1
        have B4 : Hid (Below w.heap.size w x4) := (H3.out.one B3.out 34 hown4 hgrow4).2
        clear hown4 hgrow4 H3 B3
        go_upto_region 27 with (at_builtin; refine Lib.wpList_append_fits_string _ rfl (.tmp 104) (.tmp 105) 28 9 rfl w.heap.size 5 i0 Try.underlying28 Try.underlying9 hi hz1 (some ⟨w.heap.size, 0, none⟩) (n3 + 1) T _ rfl H4.out.2 a2 rfl (by omega) (by omega) ?_; intro x5 hown5 hgrow5)
        obtain ⟨S, hS⟩ : ∃ S : ByteArray, Hid (ByteArray.mk (List.toArray (a0.data.toList ++ [34] ++ enc a1.data.toList ++ [34] ++ a2.data.toList : List UInt8)) = S) := ⟨_, show _ = _ from rfl⟩
        have B5 : Hid (Below w.heap.size w x5) := (H4.out.str B4.out a2 hown5 hgrow5).2
        have hcv : (convert 28 9 (.slice (some ⟨w.heap.size, 0, none⟩) (n3 + 1 + a2.size) T)).run Try.prog x5 = .ok (.string S) x5 := by
          rw [← hS.out]
          exact (H4.out.str B4.out a2 hown5 hgrow5).1.conv
        have HSL : Hid (S.data.toList = a0.data.toList ++ 34 :: (enc a1.data.toList ++ 34 :: a2.data.toList)) := by
          show _ = _
          rw [← hS.out]; simp
        have HSz : Hid (S.size = n3 + 1 + a2.size) := by
          show _ = _
          rw [Lib.size_eq, HSL.out, hn3.out]
          simp only [List.length_append, List.length_cons, ← Lib.size_eq]
          omega
        clear hown5 hgrow5 H4 B4 hS
        go_wp2_with fail
        have hat := enc_at HSL.out
        rw [← Lib.size_eq] at hat
        obtain ⟨hat1, hat2⟩ := hat
        refine (zz7 S a0.size 34 a4 x5 (by have := HSz.out; omega) hat1 hat2 HW4.out).mono ?_
        rintro e x6 ⟨ht, hb6⟩
        have B6 : Hid (Below w.heap.size w x6) := B5.out.trans (hb6.mono B5.out.size)
        have hE : Encoded true 34 a1.data.toList (enc a1.data.toList) := ⟨fun _ => ⟨rfl, rfl⟩, fun h => by cases h⟩
        rw [Lib.size_eq] at ht
        have he := told_enc hE HS.out HSL.out ht
        obtain ⟨V, hV⟩ : ∃ V : Nat, Hid (nl a1.data.toList = V) := ⟨_, rfl⟩
        have he2 : e = .returned (.tuple #[.int .i64 ((n3 : Int) + 1), .int .i64 (wrap64 (a4 + (V : Int)))]) := by
          rw [he, ← Lib.size_eq, hV.out, ← hn3.out]; rfl
        have HC10 : Hid (Calls Try.prog 10 #[.string a1, .int .i64 0, .int .i64 (a1.size : Int)] x6 fun e w' => e = .returned (.int .i64 (V : Int)) ∧ w' = x6) := by
          have := count10 a1 0 a1.size x6 (Nat.zero_le _) (Nat.le_refl _) (by omega)
          rw [Lib.size_eq a1, nlIn_all, hV.out, ← Lib.size_eq] at this
          exact this
        subst he2
        clear he ht hE hb6 B5 HSL HSz hat1 hat2 hV hcv
        go_wp2_with fail
        refine HC10.out.mono ?_
        rintro e x7 ⟨rfl, hx7⟩
        obtain rfl := hx7.symm
        go_wp2
        go_ret
        exact ⟨rfl, B6.out⟩

theorem no39 {s : ByteArray} (h : ∀ j, ∀ hj : j < s.size, s[j] ≠ 39) : (39 : UInt8) ∉ s.data.toList := by
  intro hm
  obtain ⟨j, hj, he⟩ := List.mem_iff_getElem.1 hm
  exact h j (by rw [Lib.size_eq]; exact hj) he

set_option maxRecDepth 100000 in
set_option maxHeartbeats 2000000 in
theorem rt_literal (a0 a1 a2 : ByteArray) (a4 : Int) (h0 : a0.size ≤ 1048576) (h1 : a1.size ≤ 1048576) (h2 : a2.size ≤ 1048576) (hsum : a0.size + a1.size + a2.size ≤ 1048576) (w4 : (Lit.int .i64 a4).wf = true) (w : World) :
    Calls Try.prog 4 #[.string a0, .string a1, .string a2, .bool false, .int .i64 a4] w fun e w' => e = .returned (.bool true) ∧ Below w.heap.size w w' := by
  obtain ⟨i0, hi, hz0, hz1, hz2⟩ := info_parts Try.info5'
  have HC : Hid (Calls Try.prog 11 #[.string a0, .string a1, .string a2, .bool false, .int .i64 a4] w fun e w' => Says e ∧ w' = w) := bytes11 a0 a1 a2 false a4 w (by unfold maxLen; omega) (by unfold maxLen; omega) (by unfold maxLen; omega)
  have HW4 : Hid ((Lit.int .i64 a4).wf = true) := w4
  have g0 : ¬ (1048576 : Int) < (a0.size : Int) := by omega
  have g1 : ¬ (1048576 : Int) < (a1.size : Int) := by omega
  have g2 : ¬ (1048576 : Int) < (a2.size : Int) := by omega
  have g3 : ¬ (1048576 : Int) < (a0.size : Int) + (a1.size : Int) + (a2.size : Int) := by omega
  clear w4
  go_enter Try.func4, Try.ntmps4
  go_wp2_with fail
  refine HC.out.mono ?_
  rintro e wx ⟨⟨ok, rfl⟩, hw⟩
  obtain rfl := hw.symm
  clear HC
  cases ok with
  | false =>
    go_wp2
    go_ret
    exact ⟨rfl, Below.refl _ _⟩
  | true =>
    go_wp2
    go_loop [12] (fun i => ∃ k : Nat, i = .int .i64 (k : Int) ∧ k ≤ a1.size ∧ Hid (∀ j, j < k → ∀ hj : j < a1.size, a1[j] ≠ 39)) (fun i => a1.size - (intOf i).toNat)
    case atStart => exact ⟨0, rfl, Nat.zero_le _, fun j hj => absurd hj (Nat.not_lt_zero _)⟩
    case round =>
      obtain ⟨k, rfl, hk, HK⟩ := hrel
      by_cases hlt : k < a1.size
      · have hlt' : (k : Int) < (a1.size : Int) := by omega
        obtain ⟨x, hx⟩ : ∃ x, a1[k] = x := ⟨_, rfl⟩
        by_cases h39 : x = 39
        · have e1 : ((x.toNat : Int) == 39) = true := by rw [h39]; rfl
          clear h39
          go_wp2
          go_ret
          exact ⟨rfl, Below.refl _ _⟩
        · have e1 : ((x.toNat : Int) == 39) = false := bne_byte h39
          have HK2 : Hid (∀ j, j < k + 1 → ∀ hj : j < a1.size, a1[j] ≠ 39) := by
            intro j hj hja
            by_cases hjk : j < k
            · exact HK.out j hjk hja
            · obtain rfl : j = k := by omega
              rw [hx]; exact h39
          clear h39 HK
          go_wp2
          go_round
          case rel => exact ⟨k + 1, by go_num, by omega, HK2⟩
          case measure => simp [intOf]; omega
      · have hlt' : ¬ (k : Int) < (a1.size : Int) := by omega
        have HNo : Hid ((39 : UInt8) ∉ a1.data.toList) := no39 (fun j hj => HK.out j (by omega) hj)
        clear HK
        by_cases hg : a1.size = 0 ∧ ∃ h : 0 < a2.size, a2[0] = 39
        · obtain ⟨k1, k2, k3⟩ := hg
          have e1 : ((a1.size : Int) == 0) = true := by rw [k1]; rfl
          have e2 : (0 : Int) < (a2.size : Int) := by omega
          clear k1
          go_wp2
          go_ret
          exact ⟨rfl, Below.refl _ _⟩
        · have HS : Hid (a1.data.toList = [] → ∀ r, a2.data.toList ≠ 39 :: r) := by
            intro k1 r k2
            have l1 : a1.size = 0 := by rw [Lib.size_eq, k1]; rfl
            have l2 : 0 < a2.size := by rw [Lib.size_eq, k2]; simp
            refine hg ⟨l1, l2, ?_⟩
            have := drop_at a2 0 l2
            rw [List.drop_zero, k2] at this
            injection this with t1 _
            exact t1.symm
          have hcase : ((a1.size : Int) == 0) = false ∨ (((a1.size : Int) == 0) = true ∧ ¬ (0 : Int) < (a2.size : Int)) ∨ (((a1.size : Int) == 0) = true ∧ (0 : Int) < (a2.size : Int) ∧ ∃ h : 0 < a2.size, ((a2[0].toNat : Int) == 39) = false) := by
            by_cases k1 : a1.size = 0
            · have e1 : ((a1.size : Int) == 0) = true := by rw [k1]; rfl
              by_cases k2 : 0 < a2.size
              · exact .inr (.inr ⟨e1, by omega, k2, bne_byte (fun h => hg ⟨k1, k2, h⟩)⟩)
              · exact .inr (.inl ⟨e1, by omega⟩)
            · exact .inl (beq_false_of_ne (by omega))
          clear hg
          obtain ⟨T, hT⟩ : ∃ T : Nat, Hid (a0.size + 2 * a1.size + a2.size + 2 = T) := ⟨_, rfl⟩
          have hTc : (a0.size : Int) + 2 * (a1.size : Int) + (a2.size : Int) + 2 = (T : Int) := by have := hT.out; omega
          have hT3 : T ≤ 4194304 := by have := hT.out; omega
          have HEL : Hid ((a1.data.toList).length ≤ 2 * a1.size) := by show _ ≤ _; rw [← Lib.size_eq]; omega
          go_upto_region 16 with fail
          go_cut [72] from 59 to 72 (fun v wc => v = .bool false ∧ wc = w)
          case first =>
            rcases hcase with e1 | ⟨e1, e2⟩ | ⟨e1, e2, e3, e4⟩
            all_goals
              go_wp2
              go_meet
              case rel => exact ⟨rfl, rfl⟩
          case rest =>
            clear hcase
            obtain ⟨rfl, hwc⟩ := hcut
            obtain rfl := hwc.symm
            clear hwc
            go_wp2_with (at_make; refine wpList_make_own _ rfl _ _ 28 rfl w.heap.size 5 i0 (.int .u8 0) 1 Try.underlying28 hi hz0 hz1 _ _ _ T rfl rfl (by omega) ?b2 ?b3 (Nat.le_refl _) ?_)
            case b2 => first | omega | (rw [hz2]; omega)
            case b3 => unfold maxLen; omega
            intro x0 hown0 hgrow0
            have H0 : Hid (Buf x0 w.heap.size w.heap.size T 0 []) := ⟨rfl, by simpa [cellsU8] using hown0⟩
            have B0 : Hid (Below w.heap.size w x0) := (Below.refl _ _).grown hgrow0 (Nat.le_refl _) (fun k h => by cases h)
            clear hown0 hgrow0
            go_upto_region 20 with (at_builtin; refine Lib.wpList_append_fits_string _ rfl (.tmp 84) (.tmp 85) 28 9 rfl w.heap.size 5 i0 Try.underlying28 Try.underlying9 hi hz1 (some ⟨w.heap.size, 0, none⟩) 0 T _ rfl H0.out.2 a0 rfl (by have := hT.out; omega) (by have := hT.out; omega) ?_; intro x1 hown1 hgrow1)
            have H1 : Hid (Buf x1 w.heap.size w.heap.size T a0.size a0.data.toList) := by
              have := (H0.out.str B0.out a0 hown1 hgrow1).1
              rw [Nat.zero_add, List.nil_append] at this
              exact this
            have B1 : Hid (Below w.heap.size w x1) := (H0.out.str B0.out a0 hown1 hgrow1).2
            clear hown1 hgrow1 H0 B0
            go_upto_region 21 with (at_builtin; refine wpList_append_fits _ rfl (.tmp 87) (.tmp 89) 28 rfl w.heap.size 5 i0 1 Try.underlying28 hi hz1 w.heap.size a0.size T _ rfl (H1.out.2.alloc _) ⟨x1.heap.size, 0, none⟩ 1 1 [.int .u8 39] rfl rfl (one_new _ _ _) (by intro u hu; simp at hu; subst hu; rfl) (by have := hT.out; omega) ?_; intro x2 hown2 hgrow2)
            have H2 : Hid (Buf x2 w.heap.size w.heap.size T (a0.size + 1) (a0.data.toList ++ [39])) := (H1.out.one B1.out 39 hown2 hgrow2).1
            have B2 : Hid (Below w.heap.size w x2) := (H1.out.one B1.out 39 hown2 hgrow2).2
            clear hown2 hgrow2 H1 B1
            go_upto_region 24 with (at_builtin; refine Lib.wpList_append_fits_string _ rfl (.tmp 95) (.tmp 96) 28 9 rfl w.heap.size 5 i0 Try.underlying28 Try.underlying9 hi hz1 (some ⟨w.heap.size, 0, none⟩) (a0.size + 1) T _ rfl H2.out.2 a1 rfl (by have := hT.out; omega) (by have := hT.out; omega) ?_; intro x3 hown3 hgrow3)
            obtain ⟨n3, hn3⟩ : ∃ n3, a0.size + 1 + a1.size = n3 := ⟨_, rfl⟩
            have H3 : Hid (Buf x3 w.heap.size w.heap.size T n3 (a0.data.toList ++ [39] ++ a1.data.toList)) := by rw [← hn3]; exact (H2.out.str B2.out a1 hown3 hgrow3).1
            have B3 : Hid (Below w.heap.size w x3) := (H2.out.str B2.out a1 hown3 hgrow3).2
            clear hown3 hgrow3 H2 B2
            simp only [hn3]
            clear hn3
            have hn3 : Hid (n3 = a0.size + 1 + (a1.data.toList).length) := by
              show _ = _
              rw [H3.out.1, List.length_append, List.length_append, ← Lib.size_eq]; rfl
            have hr3 : n3 + 1 + a2.size ≤ T := by have := hT.out; have := HEL.out; have := hn3.out; omega
            go_upto_region 25 with (at_builtin; refine wpList_append_fits _ rfl (.tmp 98) (.tmp 100) 28 rfl w.heap.size 5 i0 1 Try.underlying28 hi hz1 w.heap.size n3 T _ rfl (H3.out.2.alloc _) ⟨x3.heap.size, 0, none⟩ 1 1 [.int .u8 39] rfl rfl (one_new _ _ _) (by intro u hu; simp at hu; subst hu; rfl) (by omega) ?_; intro x4 hown4 hgrow4)
            have H4 : Hid (Buf x4 w.heap.size w.heap.size T (n3 + 1) (a0.data.toList ++ [39] ++ a1.data.toList ++ [39])) := (H3.out.one B3.out 39 hown4 hgrow4).1
            have B4 : Hid (Below w.heap.size w x4) := (H3.out.one B3.out 39 hown4 hgrow4).2
            clear hown4 hgrow4 H3 B3
            go_upto_region 27 with (at_builtin; refine Lib.wpList_append_fits_string _ rfl (.tmp 104) (.tmp 105) 28 9 rfl w.heap.size 5 i0 Try.underlying28 Try.underlying9 hi hz1 (some ⟨w.heap.size, 0, none⟩) (n3 + 1) T _ rfl H4.out.2 a2 rfl (by omega) (by omega) ?_; intro x5 hown5 hgrow5)
            obtain ⟨S, hS⟩ : ∃ S : ByteArray, Hid (ByteArray.mk (List.toArray (a0.data.toList ++ [39] ++ a1.data.toList ++ [39] ++ a2.data.toList : List UInt8)) = S) := ⟨_, show _ = _ from rfl⟩
            have B5 : Hid (Below w.heap.size w x5) := (H4.out.str B4.out a2 hown5 hgrow5).2
            have hcv : (convert 28 9 (.slice (some ⟨w.heap.size, 0, none⟩) (n3 + 1 + a2.size) T)).run Try.prog x5 = .ok (.string S) x5 := by
              rw [← hS.out]
              exact (H4.out.str B4.out a2 hown5 hgrow5).1.conv
            have HSL : Hid (S.data.toList = a0.data.toList ++ 39 :: (a1.data.toList ++ 39 :: a2.data.toList)) := by
              show _ = _
              rw [← hS.out]; simp
            have HSz : Hid (S.size = n3 + 1 + a2.size) := by
              show _ = _
              rw [Lib.size_eq, HSL.out, hn3.out]
              simp only [List.length_append, List.length_cons, ← Lib.size_eq]
              omega
            clear hown5 hgrow5 H4 B4 hS
            go_wp2_with fail
            have hat := enc_at HSL.out
            rw [← Lib.size_eq] at hat
            obtain ⟨hat1, hat2⟩ := hat
            refine (zz7 S a0.size 39 a4 x5 (by have := HSz.out; omega) hat1 hat2 HW4.out).mono ?_
            rintro e x6 ⟨ht, hb6⟩
            have B6 : Hid (Below w.heap.size w x6) := B5.out.trans (hb6.mono B5.out.size)
            have hE : Encoded false 39 a1.data.toList (a1.data.toList) := ⟨fun h => (by cases h), fun _ => ⟨rfl, rfl, HNo.out⟩⟩
            rw [Lib.size_eq] at ht
            have he := told_enc hE HS.out HSL.out ht
            obtain ⟨V, hV⟩ : ∃ V : Nat, Hid (nl a1.data.toList = V) := ⟨_, rfl⟩
            have he2 : e = .returned (.tuple #[.int .i64 ((n3 : Int) + 1), .int .i64 (wrap64 (a4 + (V : Int)))]) := by
              rw [he, ← Lib.size_eq, hV.out, ← hn3.out]; rfl
            have HC10 : Hid (Calls Try.prog 10 #[.string a1, .int .i64 0, .int .i64 (a1.size : Int)] x6 fun e w' => e = .returned (.int .i64 (V : Int)) ∧ w' = x6) := by
              have := count10 a1 0 a1.size x6 (Nat.zero_le _) (Nat.le_refl _) (by omega)
              rw [Lib.size_eq a1, nlIn_all, hV.out, ← Lib.size_eq] at this
              exact this
            subst he2
            clear he ht hE hb6 B5 HSL HSz hat1 hat2 hV hcv
            go_wp2_with fail
            refine HC10.out.mono ?_
            rintro e x7 ⟨rfl, hx7⟩
            obtain rfl := hx7.symm
            go_wp2
            go_ret
            exact ⟨rfl, B6.out⟩

theorem bare4 (a0 a1 a2 : ByteArray) (a3 : Bool) (a4 : Int) (w0 : a0.size ≤ maxLen) (w1 : a1.size ≤ maxLen) (w2 : a2.size ≤ maxLen) (w4 : (Lit.int .i64 a4).wf = true) (w : World) :
    Calls Try.prog 4 #[.string a0, .string a1, .string a2, .bool a3, .int .i64 a4] w fun e w' => e = .returned (.bool true) ∧ Below w.heap.size w w' := by
  by_cases hsz : 1048576 < a0.size ∨ 1048576 < a1.size ∨ 1048576 < a2.size ∨ 1048576 < a0.size + a1.size + a2.size
  · exact rt_early a0 a1 a2 a3 a4 w0 w1 w2 w hsz
  · cases a3 with
    | true => exact rt_basic a0 a1 a2 a4 (by omega) (by omega) (by omega) (by omega) w4 w
    | false => exact rt_literal a0 a1 a2 a4 (by omega) (by omega) (by omega) (by omega) w4 w
end Go.Proofs.Qxb6600908a
