/-
  THE WALKS of zzPrefixEndsSevenBit, zzInSpan, zzBytes (rangeOf's law).
-/
import Derived.Test.Qxb6603979aWalkD
namespace Go.Proofs.Qxb6603979a
open Go.ChangeShapes Go.WideShapes Go.ChangeAt Go.RowKit

/-- The last number that is no 255 is below 127, or there is none. -/
def Seven (p : List Int) : Prop := AllFF p ∨ ∃ i, SplitAt p i ∧ p.getD i 0 < 127

set_option maxHeartbeats 400000 in
theorem seven_any (a : Option Addr) (p : List Int) (c : Nat) (w : World) (hp : p.length ≤ 1048576) (r : BytesAt w a p) :
    Calls Try.prog 15 #[.slice a p.length c] w fun e w' => SaysIf e (Seven p) ∧ w' = w := by
  by_cases h0 : p = []
  · subst h0
    have HN : Hid (Seven []) := .inl (fun j hj => by simp at hj)
    go_enter Try.func15, Try.ntmps15
    go_wp2
    go_loop [3] (fun i => i = .int .i64 (-1)) (fun _ => 0)
    case atStart => rfl
    case round =>
      subst hrel
      go_wp2
      go_ret
      exact ⟨SaysIf.yes HN.out, rfl⟩
  obtain ⟨b, o, rfl, z⟩ : ∃ b off, a = some ⟨b, off, none⟩ ∧ ∀ j, j < p.length → w.cell? ⟨b, off + j, none⟩ = some (.int .u8 (p.getD j 0)) := by
    rcases r with h | h
    · exact absurd h h0
    · exact h
  clear r
  have hpl : 0 < p.length := List.length_pos_iff.2 h0
  go_enter Try.func15, Try.ntmps15
  go_wp2
  go_loop [3] (fun i => ∃ m : Nat, i = .int .i64 ((m : Int) - 1) ∧ m ≤ p.length ∧ Hid (∀ j, m ≤ j → j < p.length → p.getD j 0 = 255)) (fun i => (intOf i + 1).toNat)
  case atStart => exact ⟨p.length, rfl, Nat.le_refl _, fun j h1 h2 => by omega⟩
  case round =>
    obtain ⟨m, rfl, hm, HB⟩ := hrel
    match m, hm, HB with
    | 0, hm, HB =>
      have HN : Hid (Seven p) := .inl (fun j hj => HB.out j (by omega) hj)
      clear HB z
      go_wp2
      go_ret
      exact ⟨SaysIf.yes HN.out, rfl⟩
    | m + 1, hm, HB =>
      have em : ((m + 1 : Nat) : Int) - 1 = (m : Int) := by omega
      rw [em]
      obtain ⟨x, hx⟩ : ∃ x, Hid (p.getD m 0 = x) := ⟨_, rfl⟩
      have g : w.cell? ⟨b, o + m, none⟩ = some (.int .u8 x) := by rw [← hx.out]; exact z m (by omega)
      clear z em
      by_cases he : x = 255
      · subst he
        have HB2 : Hid (∀ j, m ≤ j → j < p.length → p.getD j 0 = 255) := fun j h1 h2 => by
          by_cases hj : j = m
          · subst hj; exact hx.out
          · exact HB.out j (by omega) h2
        clear HB
        go_wp2
        go_round
        case rel => exact ⟨m, rfl, by omega, HB2⟩
        case measure => simp [intOf]
      · have he' : (x != 255) = true := by simpa using he
        have HS : Hid (SplitAt p m) := ⟨by omega, by rw [hx.out]; exact he, fun j h1 h2 => HB.out j (by omega) h2⟩
        by_cases hlt : x < 127
        · have HN : Hid (Seven p) := .inr ⟨m, HS.out, by rw [hx.out]; exact hlt⟩
          clear HB HS
          go_wp2
          go_ret
          exact ⟨SaysIf.yes HN.out, rfl⟩
        · clear HB HS
          go_wp2
          go_ret
          exact ⟨SaysIf.no, rfl⟩

theorem bytes14 (a1 a2 a3 a4 : Option Addr) (l1 l2 l3 l4 c1 c2 c3 c4 : Nat) (w : World) (h1 : l1 ≤ maxLen) (h2 : l2 ≤ maxLen) (h3 : l3 ≤ maxLen) (h4 : l4 ≤ maxLen) :
    Calls Try.prog 14 #[.slice a1 l1 c1, .slice a2 l2 c2, .slice a3 l3 c3, .slice a4 l4 c4] w fun e w' => SaysIf e True ∧ w' = w := by
  unfold maxLen at h1 h2 h3 h4
  go_enter Try.func14, Try.ntmps14
  go_wp2
  all_goals
    go_ret
    first | exact ⟨SaysIf.no, rfl⟩ | exact ⟨SaysIf.yes trivial, rfl⟩
theorem BytesAt.drewN {w : World} {a : Option Addr} {xs : List Int} (h : BytesAt w a xs) (q : Nat) : BytesAt (w.drewN q) a xs := by
  rcases h with h | ⟨b, off, ha, hz⟩
  · exact .inl h
  · exact .inr ⟨b, off, ha, fun j hj => by simpa using hz j hj⟩
theorem BytesAt.later {w w' : World} {a : Option Addr} {xs : List Int} (h : BytesAt w a xs) (hb : Below w.heap.size w w') : BytesAt w' a xs := by
  rcases h with h | ⟨b, off, ha, hz⟩
  · exact .inl h
  · exact .inr ⟨b, off, ha, fun j hj => cell_later hb (hz j hj)⟩

/-- The last test of zzInSpan: 'len(end) > 0 && zzCompareBytes(k, end) >= 0'. -/
theorem inspan_any (a1 a2 a3 a4 : Option Addr) (k p s e : List Int) (c1 c2 c3 c4 : Nat) (w : World) (hk : k.length ≤ 1048576) (hp : p.length ≤ 1048576) (hs : s.length ≤ 1048576) (he : e.length ≤ 1048576)
    (r1 : BytesAt w a1 k) (r2 : BytesAt w a2 p) (r3 : BytesAt w a3 s) (r4 : BytesAt w a4 e) :
    Calls Try.prog 17 #[.slice a1 k.length c1, .slice a2 p.length c2, .slice a3 s.length c3, .slice a4 e.length c4] w fun x w' => SaysIff x (InSpan k p s e) ∧ ∃ q, w' = w.drewN q := by
  by_cases hs0 : s.length = 0
  · have HS : Hid (lexB k s = false) := by obtain rfl := List.eq_nil_of_length_eq_zero hs0; exact lexB_nil k
    by_cases he0 : e.length = 0
    · have HE : Hid (e = [] ∨ lexB k e = true) := .inl (List.eq_nil_of_length_eq_zero he0)
      go_enter Try.func17, Try.ntmps17
      go_wp2_with fail
      refine (has_any a1 a2 k p c1 c2 w hk hp r1 r2).mono ?_
      rintro x w1 ⟨⟨ok, rfl, hok⟩, q, rfl⟩
      cases ok
      · have HN : Hid (¬ InSpan k p s e) := fun h => by have := hok.2 h.1; cases this
        clear hok
        go_wp2
        go_ret
        exact ⟨SaysIff.no HN.out, _, rfl⟩
      · have HY : Hid (InSpan k p s e) := ⟨hok.1 rfl, HS.out, HE.out⟩
        clear hok
        go_wp2
        go_ret
        exact ⟨SaysIff.yes HY.out, _, rfl⟩
    · have hep : 0 < e.length := by omega
      go_enter Try.func17, Try.ntmps17
      go_wp2_with fail
      refine (has_any a1 a2 k p c1 c2 w hk hp r1 r2).mono ?_
      rintro x w1 ⟨⟨ok, rfl, hok⟩, q, rfl⟩
      cases ok
      · have HN : Hid (¬ InSpan k p s e) := fun h => by have := hok.2 h.1; cases this
        clear hok
        go_wp2
        go_ret
        exact ⟨SaysIff.no HN.out, _, rfl⟩
      · have HP : Hid (begins k p = true) := hok.1 rfl
        clear hok
        go_wp2_with fail
        refine (cmp_any a1 a4 k e c1 c4 _ hk he (r1.drewN q) (r4.drewN q)).mono ?_
        rintro x w1 ⟨⟨c, rfl, hc⟩, q2, rfl⟩
        by_cases h0 : c < 0
        · have HY : Hid (InSpan k p s e) := ⟨HP.out, HS.out, .inr (hc.1 h0)⟩
          clear hc
          go_wp2
          go_ret
          exact ⟨SaysIff.yes HY.out, by first | exact ⟨_, rfl⟩ | exact dr2 _ _ _⟩
        · have HN : Hid (¬ InSpan k p s e) := fun h => by
            rcases h.2.2 with h1 | h1
            · rw [h1] at hep; simp at hep
            · exact h0 (hc.2 h1)
          clear hc
          go_wp2
          go_ret
          exact ⟨SaysIff.no HN.out, by first | exact ⟨_, rfl⟩ | exact dr2 _ _ _⟩
  · have hsp : 0 < s.length := by omega
    by_cases he0 : e.length = 0
    · have HE : Hid (e = [] ∨ lexB k e = true) := .inl (List.eq_nil_of_length_eq_zero he0)
      go_enter Try.func17, Try.ntmps17
      go_wp2_with fail
      refine (has_any a1 a2 k p c1 c2 w hk hp r1 r2).mono ?_
      rintro x w1 ⟨⟨ok, rfl, hok⟩, q, rfl⟩
      cases ok
      · have HN : Hid (¬ InSpan k p s e) := fun h => by have := hok.2 h.1; cases this
        clear hok
        go_wp2
        go_ret
        exact ⟨SaysIff.no HN.out, _, rfl⟩
      · have HP : Hid (begins k p = true) := hok.1 rfl
        clear hok
        go_wp2_with fail
        refine (cmp_any a1 a3 k s c1 c3 _ hk hs (r1.drewN q) (r3.drewN q)).mono ?_
        rintro x w1 ⟨⟨c, rfl, hc⟩, q2, rfl⟩
        by_cases h0 : c < 0
        · have HN : Hid (¬ InSpan k p s e) := fun h => by have := h.2.1; rw [hc.1 h0] at this; cases this
          clear hc
          go_wp2
          go_ret
          exact ⟨SaysIff.no HN.out, by first | exact ⟨_, rfl⟩ | exact dr2 _ _ _⟩
        · have HY : Hid (InSpan k p s e) := ⟨HP.out, by
            by_cases h1 : lexB k s = true
            · exact absurd (hc.2 h1) h0
            · simpa using h1, HE.out⟩
          clear hc
          go_wp2
          go_ret
          exact ⟨SaysIff.yes HY.out, by first | exact ⟨_, rfl⟩ | exact dr2 _ _ _⟩
    · have hep : 0 < e.length := by omega
      go_enter Try.func17, Try.ntmps17
      go_wp2_with fail
      refine (has_any a1 a2 k p c1 c2 w hk hp r1 r2).mono ?_
      rintro x w1 ⟨⟨ok, rfl, hok⟩, q, rfl⟩
      cases ok
      · have HN : Hid (¬ InSpan k p s e) := fun h => by have := hok.2 h.1; cases this
        clear hok
        go_wp2
        go_ret
        exact ⟨SaysIff.no HN.out, _, rfl⟩
      · have HP : Hid (begins k p = true) := hok.1 rfl
        clear hok
        go_wp2_with fail
        refine (cmp_any a1 a3 k s c1 c3 _ hk hs (r1.drewN q) (r3.drewN q)).mono ?_
        rintro x w1 ⟨⟨c, rfl, hc⟩, q2, rfl⟩
        by_cases h0 : c < 0
        · have HN : Hid (¬ InSpan k p s e) := fun h => by have := h.2.1; rw [hc.1 h0] at this; cases this
          clear hc
          go_wp2
          go_ret
          exact ⟨SaysIff.no HN.out, by first | exact ⟨_, rfl⟩ | exact dr2 _ _ _⟩
        · have HS : Hid (lexB k s = false) := by
            show _ = _
            by_cases h1 : lexB k s = true
            · exact absurd (hc.2 h1) h0
            · simpa using h1
          clear hc
          go_wp2_with fail
          refine (cmp_any a1 a4 k e c1 c4 _ hk he (r1.drewN (q + q2)) (r4.drewN (q + q2))).mono ?_
          rintro x w1 ⟨⟨d, rfl, hd⟩, q3, rfl⟩
          by_cases h0 : d < 0
          · have HY : Hid (InSpan k p s e) := ⟨HP.out, HS.out, .inr (hd.1 h0)⟩
            clear hd
            go_wp2
            go_ret
            exact ⟨SaysIff.yes HY.out, by first | exact ⟨_, rfl⟩ | exact dr2 _ _ _⟩
          · have HN : Hid (¬ InSpan k p s e) := fun h => by
              rcases h.2.2 with h1 | h1
              · rw [h1] at hep; simp at hep
              · exact h0 (hd.2 h1)
            clear hd
            go_wp2
            go_ret
            exact ⟨SaysIff.no HN.out, by first | exact ⟨_, rfl⟩ | exact dr2 _ _ _⟩
end Go.Proofs.Qxb6603979a
