/-
  THE LAW OF rangeOf, WALKED.
-/
import Derived.Test.Qxb6603979aWalkF
import Derived.Test.Qxb6603979aCopy
import Derived.Deep.DeepCutAuto
import Derived.OpenShut
namespace Go.Proofs.Qxb6603979a
open Go.ChangeShapes Go.WideShapes Go.ChangeAt Go.RowKit

set_option maxHeartbeats 400000 in
theorem zzrange_any (a1 a2 a3 : Option Addr) (p s e : List Int) (c1 c2 c3 : Nat) (w : World) (hp : p.length ≤ 1048576) (hs : s.length ≤ 1048576) (he : e.length ≤ 1048576) (hc1 : p.length ≤ c1) (bp : Byt p) (bs : Byt s) (be : Byt e)
    (r1 : BytesAt w a1 p) (r2 : BytesAt w a2 s) (r3 : BytesAt w a3 e) (h7 : Hid (Seven p)) :
    Calls Try.prog 16 #[.slice a1 p.length c1, .slice a2 s.length c2, .slice a3 e.length c3] w fun x w' => x = .returned (.tuple #[.string (strOfNums (loOf s p)), .string (strOfNums (hiOf p e)), .bool (hasHi p e)]) ∧ Below w.heap.size w w' := by
  go_enter Try.func16, Try.ntmps16
  go_wp2_with fail
  refine (range_any a1 a2 a3 p s e c1 c2 c3 w hp hs he hc1 bp bs be r1 r2 r3 h7).mono ?_
  rintro x w1 ⟨rfl, hb⟩
  go_wp2
  go_quiet (fail)
  go_wp2
  go_ret3
  exact ⟨rfl, below_drewN (hb.alloc hb.size _) _⟩

theorem Try.info5 : (Try.prog.info? 5).map (fun i => (i.zero, i.size, i.bytes)) = some (some (.int .u8 0), 1, 1) := by kernel_rfl

/-- A slice of bytes that came in. -/
structure InRow (w : World) (a : Option Addr) (xs : List Int) (cap : Nat) : Prop where
  fits : xs.length ≤ maxLen
  nil : a = none → xs.length = 0 ∧ cap = 0
  room : xs.length ≤ cap
  byt : Byt xs
  row : BytesAt w a xs
  cell : ∀ x, a = some x → ∀ j, j < xs.length → w.cell? (x.add j) = some (.int .u8 (xs.getD j 0))

theorem byt_lo {s p : List Int} (hs : Byt s) (hp : Byt p) : Byt (loOf s p) := by
  unfold loOf
  split
  · exact hp
  · exact hs
theorem byt_hi {p e : List Int} (hp : Byt p) (he : Byt e) (h7 : Seven p) : Byt (hiOf p e) := by
  unfold hiOf
  rcases h7 with h | ⟨i, h1, h2⟩
  · rw [pend_all p h]; exact he
  · rw [pend_split p i h1]
    simp only []
    split
    · intro y hy
      rcases List.mem_append.1 hy with h | h
      · exact hp y (List.mem_of_mem_take h)
      · have hi := h1.1
        have := hp (p.getD i 0) (by simp [List.getElem?_eq_getElem hi])
        simp only [List.mem_singleton] at h
        omega
    · exact he
/-- No upper end: it is empty. -/
theorem hi_none {p e : List Int} (h : hasHi p e = false) : hiOf p e = [] := by
  unfold hasHi at h
  unfold hiOf
  cases hp : pend p with
  | none => rw [hp] at h; simpa using h
  | some t => rw [hp] at h; cases h
theorem bytes_empty_str : strOfNums [] = ⟨#[]⟩ := rfl

set_option maxRecDepth 100000 in
set_option maxHeartbeats 2000000 in
theorem range_walk (a1 a2 a3 a4 : Option Addr) (p s e k : List Int) (c1 c2 c3 c4 : Nat) (w : World) (i1 : InRow w a1 p c1) (i2 : InRow w a2 s c2) (i3 : InRow w a3 e c3) (i4 : InRow w a4 k c4) :
    Calls Try.prog 5 #[.slice a1 p.length c1, .slice a2 s.length c2, .slice a3 e.length c3, .slice a4 k.length c4] w fun x w' => x = .returned (.bool true) ∧ Below w.heap.size w w' := by
  have q28 : ∀ (w : World) (a : Option Addr) (n c n' c' : Nat), (binOp .neq 28 (.slice a n c) (.slice none n' c')).run Try.prog w = .ok (.bool (!a.isNone)) w := fun w a n c n' c' => run_neq_slice_nil_any w _ _ a n c n' c' Try.underlying28
  by_cases hb : p.length ≤ 262144 ∧ s.length ≤ 262144 ∧ e.length ≤ 262144 ∧ k.length ≤ 262144
  · obtain ⟨h1, h2, h3, h4⟩ := hb
    go_enter Try.func5, Try.ntmps5
    go_wp2_with fail
    refine (bytes14 a1 a2 a3 a4 p.length s.length e.length k.length c1 c2 c3 c4 w i1.fits i2.fits i3.fits i4.fits).mono ?_
    rintro x w2 ⟨⟨ok, rfl, -⟩, hw⟩
    obtain rfl := hw.symm
    cases ok
    · go_wp2
      go_ret
      exact ⟨rfl, Below.refl _ _⟩
    go_wp2_with fail
    refine (seven_any a1 p c1 w (by omega) i1.row).mono ?_
    rintro x w2 ⟨⟨ok, rfl, h7⟩, hw⟩
    obtain rfl := hw.symm
    cases ok
    · go_wp2
      go_ret
      exact ⟨rfl, Below.refl _ _⟩
    have H7 : Hid (Seven p) := h7 rfl
    clear h7
    go_upto_if 39 with (fail)
    go_cut [0] (fun v wc => ∃ a c, v = .slice a p.length c ∧ p.length ≤ c ∧ BytesAt wc a p ∧ Below w.heap.size w wc)
    case first =>
      cases a1 with
      | none =>
        go_wp2
        go_meet
        case rel => exact ⟨none, c1, rfl, i1.room, i1.row, Below.refl _ _⟩
      | some x =>
        obtain ⟨W1, W2, hmk, hcp, hb2, hs2, hc2⟩ := copied (P := Try.prog) 28 5 .u8 1 Try.underlying28 Try.info5 x p.length c1 p (by omega) (by omega) w (i1.cell x rfl)
        go_wp2
        go_meet
        case rel => exact ⟨some ⟨w.heap.size, 0, none⟩, p.length, rfl, Nat.le_refl _, .inr ⟨_, _, rfl, fun j hj => by rw [Nat.zero_add]; exact hc2 j hj⟩, hb2⟩
    case rest =>
      obtain ⟨b1, d1, rfl, hd1, t1, B1⟩ := hcut
      obtain ⟨v1, rfl⟩ : ∃ v1 : World, v1 = wc := ⟨_, rfl⟩
      go_upto_if 48 with (fail)
      go_cut [1] (fun v wc => ∃ a c, v = .slice a s.length c ∧ BytesAt wc a s ∧ BytesAt wc b1 p ∧ Below w.heap.size w wc)
      case first =>
        cases a2 with
        | none =>
          go_wp2
          go_meet
          case rel => exact ⟨none, c2, rfl, i2.row.later B1, t1, B1⟩
        | some x =>
          obtain ⟨W1, W2, hmk, hcp, hb2, hs2, hc2⟩ := copied (P := Try.prog) 28 5 .u8 1 Try.underlying28 Try.info5 x s.length c2 s (by omega) (by omega) v1 (fun j hj => cell_later B1 (i2.cell x rfl j hj))
          go_wp2
          go_meet
          case rel => exact ⟨some ⟨v1.heap.size, 0, none⟩, s.length, rfl, .inr ⟨_, _, rfl, fun j hj => by rw [Nat.zero_add]; exact hc2 j hj⟩, t1.later hb2, B1.trans (hb2.mono B1.size)⟩
      case rest =>
        obtain ⟨b2, d2, rfl, t2, t1', B2⟩ := hcut
        clear t1 B1
        obtain ⟨v2, rfl⟩ : ∃ v2 : World, v2 = wc := ⟨_, rfl⟩
        go_upto_if 57 with (fail)
        go_cut [2] (fun v wc => ∃ a c, v = .slice a e.length c ∧ BytesAt wc a e ∧ BytesAt wc b2 s ∧ BytesAt wc b1 p ∧ Below w.heap.size w wc)
        case first =>
          cases a3 with
          | none =>
            go_wp2
            go_meet
            case rel => exact ⟨none, c3, rfl, i3.row.later B2, t2, t1', B2⟩
          | some x =>
            obtain ⟨W1, W2, hmk, hcp, hb2, hs2, hc2⟩ := copied (P := Try.prog) 28 5 .u8 1 Try.underlying28 Try.info5 x e.length c3 e (by omega) (by omega) v2 (fun j hj => cell_later B2 (i3.cell x rfl j hj))
            go_wp2
            go_meet
            case rel => exact ⟨some ⟨v2.heap.size, 0, none⟩, e.length, rfl, .inr ⟨_, _, rfl, fun j hj => by rw [Nat.zero_add]; exact hc2 j hj⟩, t2.later hb2, t1'.later hb2, B2.trans (hb2.mono B2.size)⟩
        case rest =>
          obtain ⟨b3, d3, rfl, t3, t2', t1'', B3⟩ := hcut
          clear t1' t2 B2
          obtain ⟨v3, rfl⟩ : ∃ v3 : World, v3 = wc := ⟨_, rfl⟩
          go_wp2_with fail
          refine (zzrange_any b1 b2 b3 p s e d1 d2 d3 v3 (by omega) (by omega) (by omega) hd1 i1.byt i2.byt i3.byt t1'' t2' t3 H7).mono ?_
          rintro x w4 ⟨rfl, hb4⟩
          have B4 : Below w.heap.size w w4 := B3.trans (hb4.mono B3.size)
          have u1 := t1''.later hb4
          have u2 := t2'.later hb4
          have u3 := t3.later hb4
          have u4 := i4.row.later B4
          have HL : Hid ((lexB k (loOf s p) = false ∧ (hasHi p e = false ∨ lexB k (hiOf p e) = true)) ↔ InSpan k p s e) := range_law k p s e i4.byt
          have kc : (convert 28 9 (.slice a4 k.length c4)).run Try.prog w4 = .ok (.string (strOfNums k)) w4 := conv_any w4 a4 k c4 u4
          have hlo := less_str k (loOf s p) i4.byt (byt_lo i2.byt i1.byt)
          have hhi := less_str k (hiOf p e) i4.byt (byt_hi i1.byt i3.byt H7.out)
          have hnn : Hid (hasHi p e = false → strOfNums (hiOf p e) = ⟨#[]⟩) := fun h => by rw [hi_none h]; rfl
          obtain ⟨lo, elo⟩ : ∃ lo, strOfNums (loOf s p) = lo := ⟨_, rfl⟩
          obtain ⟨hi, ehi⟩ : ∃ hi, strOfNums (hiOf p e) = hi := ⟨_, rfl⟩
          obtain ⟨hh, ehh⟩ : ∃ hh, hasHi p e = hh := ⟨_, rfl⟩
          obtain ⟨l1, el1⟩ : ∃ l1, lexB k (loOf s p) = l1 := ⟨_, rfl⟩
          obtain ⟨l2, el2⟩ : ∃ l2, lexB k (hiOf p e) = l2 := ⟨_, rfl⟩
          obtain ⟨K, eK⟩ : ∃ K, strOfNums k = K := ⟨_, rfl⟩
          rw [eK] at kc hlo hhi
          rw [elo, el1] at hlo
          rw [ehi, el2] at hhi
          rw [ehi, ehh] at hnn
          rw [el1, el2, ehh] at HL
          rw [elo, ehi, ehh]
          clear elo ehi ehh el1 el2 eK t1'' t2' t3
          have HV : Hid (((!l1) && (!hh || l2)) = true ↔ InSpan k p s e) := by
            show _ ↔ _
            rw [← HL.out]
            cases l1 <;> cases hh <;> cases l2 <;> simp
          clear HL
          have hi0 : hh = false → hi = ⟨#[]⟩ := hnn.out
          clear hnn
          cases hh
          case' false => obtain rfl := hi0 rfl
          all_goals
            clear hi0
            cases l1
            all_goals
              cases l2
              all_goals
                go_wp2_with fail
                refine (inspan_any a4 b1 b2 b3 k p s e c4 d1 d2 d3 w4 (by omega) (by omega) (by omega) (by omega) u4 u1 u2 u3).mono ?_
                rintro x w5 ⟨⟨ok, rfl, hok⟩, q, rfl⟩
                have hv := hok.trans HV.out.symm
                clear hok HV
                simp only [Bool.not_true, Bool.not_false, Bool.true_and, Bool.false_and, Bool.or_true, Bool.or_false, Bool.false_eq_true, iff_true, iff_false, Bool.not_eq_true] at hv
                subst hv
                go_wp2
                go_ret
                exact ⟨rfl, below_drewN B4 _⟩
  · go_enter Try.func5, Try.ntmps5
    go_wp2_with fail
    refine (bytes14 a1 a2 a3 a4 p.length s.length e.length k.length c1 c2 c3 c4 w i1.fits i2.fits i3.fits i4.fits).mono ?_
    rintro x w2 ⟨⟨ok, rfl, -⟩, hw⟩
    obtain rfl := hw.symm
    cases ok
    · go_wp2
      go_ret
      exact ⟨rfl, Below.refl _ _⟩
    by_cases g1 : p.length ≤ 262144
    · by_cases g2 : s.length ≤ 262144
      · by_cases g3 : e.length ≤ 262144
        · have g4 : ¬ k.length ≤ 262144 := fun h => hb ⟨g1, g2, g3, h⟩
          clear hb
          go_wp2
          go_ret
          exact ⟨rfl, Below.refl _ _⟩
        · clear hb
          go_wp2
          go_ret
          exact ⟨rfl, Below.refl _ _⟩
      · clear hb
        go_wp2
        go_ret
        exact ⟨rfl, Below.refl _ _⟩
    · clear hb
      go_wp2
      go_ret
      exact ⟨rfl, Below.refl _ _⟩
theorem wf_byte {n : Int} (h : (Lit.int .u8 n).wf = true) : 0 ≤ n ∧ n < 256 := by
  have := bounds_u8 h
  omega

/-- From the frame's word for a slice that came in. -/
theorem inRow_of {w : World} {a : Option Addr} {len cap : Nat} {zs : List Int}
    (h : (a = none ∧ len = 0 ∧ cap = 0 ∧ zs = []) ∨ ∃ x, a = some x ∧ len ≤ cap ∧ cap ≤ maxLen ∧ zs.length = cap ∧ (∀ i, i < zs.length → w.cell? (x.add i) = some (.int .u8 (zs.getD i 0))) ∧ ∀ n ∈ zs, (Lit.int .u8 n).wf = true) :
    ∃ xs : List Int, xs.length = len ∧ InRow w a xs cap := by
  rcases h with ⟨rfl, rfl, rfl, rfl⟩ | ⟨x, rfl, h1, h2, h3, h4, h5⟩
  · exact ⟨[], rfl, by simp, fun _ => ⟨rfl, rfl⟩, by simp, fun x hx => by simp at hx, .inl rfl, fun x hx => by cases hx⟩
  · have hl : (zs.take len).length = len := by simp; omega
    have hc : ∀ j, j < (zs.take len).length → w.cell? (x.add j) = some (.int .u8 ((zs.take len).getD j 0)) := fun j hj => by
      rw [h4 j (by omega)]
      simp only [List.getD_eq_getElem?_getD]
      rw [List.getElem?_take_of_lt (by omega)]
    refine ⟨zs.take len, hl, ⟨by omega, fun h => (by cases h), by omega, fun y hy => wf_byte (h5 y (List.mem_of_mem_take hy)), ?_, fun y hy j hj => by cases hy; exact hc j hj⟩⟩
    by_cases h0 : (zs.take len).length = 0
    · exact .inl (List.eq_nil_of_length_eq_zero h0)
    · obtain ⟨b, off, rfl, hcc⟩ := ints_at hc (by omega)
      exact .inr ⟨b, off, rfl, fun j hj => hcc j hj⟩
end Go.Proofs.Qxb6603979a
