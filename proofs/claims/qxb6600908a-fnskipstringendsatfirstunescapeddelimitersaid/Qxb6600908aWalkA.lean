/-
  THE WALK of (*scanner).skipString.
-/
import Derived.Test.Qxb6600908aRows
import Derived.Test.Qxb6600908aShelf
import Derived.Test.Qxb6600908aSkip
import Derived.WalkKit
import Derived.ProofKit
import Derived.WalkLawsBesides
import Derived.WalkSpells
import Derived.Below
import Derived.Deep.QuietTactic
import Derived.Deep.DeepCutAuto
import Derived.Deep.CutRange
import Derived.BigQuiet
import Derived.RegionTactic
import Derived.BigRegion
import Derived.Deep.RegionHeld3
namespace Go.Proofs.Qxb6600908a
open Go.ChangeShapes Go.WideShapes Go.ChangeAt Go.RowKit

/-- The scanner's block: its text, its place, its line. -/
structure At (b : Nat) (s : ByteArray) (z v : Int) (w : World) : Prop where
  c0 : w.cell? ⟨b, 0, none⟩ = some (.string s)
  c1 : w.cell? ⟨b, 1, none⟩ = some (.int .i64 z)
  c2 : w.cell? ⟨b, 2, none⟩ = some (.int .i64 v)
  f1 : w.frozen? ⟨b, 1, none⟩ = false
  f2 : w.frozen? ⟨b, 2, none⟩ = false
theorem below_lt {w w' : World} {b : Nat} (h : Below w.heap.size w w') (hb : b < w.heap.size) : Below b w w' := h.mono (Nat.le_of_lt hb)
theorem At.later {b : Nat} {s : ByteArray} {z v : Int} {w w' : World} (h : At b s z v w) (hb : b < w.heap.size) (hw : Below w.heap.size w w') : At b s z v w' := by
  refine ⟨?_, ?_, ?_, ?_, ?_⟩
  · rw [hw.cell hb]; exact h.c0
  · rw [hw.cell hb]; exact h.c1
  · rw [hw.cell hb]; exact h.c2
  · rw [hw.frozen hb]; exact h.f1
  · rw [hw.frozen hb]; exact h.f2
theorem At.drewN {b : Nat} {s : ByteArray} {z v : Int} {w : World} (h : At b s z v w) (n : Nat) : At b s z v (w.drewN n) := by
  refine ⟨?_, ?_, ?_, ?_, ?_⟩
  · simpa using h.c0
  · simpa using h.c1
  · simpa using h.c2
  · simpa using h.f1
  · simpa using h.f2
theorem At.pos {b : Nat} {s : ByteArray} {z v : Int} {w : World} (h : At b s z v w) (z' : Int) : At b s z' v (w.setCell ⟨b, 1, none⟩ (.int .i64 z')) := by
  refine ⟨?_, ?_, ?_, ?_, ?_⟩
  · rw [World.cell?_setCell_other _ _ _ _ (by intro h; cases h)]; exact h.c0
  · exact World.cell?_setCell_same _ _ _ h.c1
  · rw [World.cell?_setCell_other _ _ _ _ (by intro h; cases h)]; exact h.c2
  · rw [World.frozen?_setCell]; exact h.f1
  · rw [World.frozen?_setCell]; exact h.f2
theorem At.line {b : Nat} {s : ByteArray} {z v : Int} {w : World} (h : At b s z v w) (v' : Int) : At b s z v' (w.setCell ⟨b, 2, none⟩ (.int .i64 v')) := by
  refine ⟨?_, ?_, ?_, ?_, ?_⟩
  · rw [World.cell?_setCell_other _ _ _ _ (by intro h; cases h)]; exact h.c0
  · rw [World.cell?_setCell_other _ _ _ _ (by intro h; cases h)]; exact h.c1
  · exact World.cell?_setCell_same _ _ _ h.c2
  · rw [World.frozen?_setCell]; exact h.f1
  · rw [World.frozen?_setCell]; exact h.f2
theorem At.cast {b : Nat} {s : ByteArray} {z v z' v' : Int} {w : World} (h : At b s z v w) (hz : z = z') (hv : v = v') : At b s z' v' w := by subst hz; subst hv; exact h
/-- The place as the world has it. -/
def posOf (w : World) (b : Nat) : Nat := match w.cell? ⟨b, 1, none⟩ with | some v => (intOf v).toNat | none => 0
theorem At.posOf {b : Nat} {s : ByteArray} {z v : Int} {w : World} (h : At b s z v w) : posOf w b = z.toNat := by
  unfold Qxb6600908a.posOf
  rw [h.c1]; rfl
theorem wrap_in {n : Int} (h : (Lit.int .i64 n).wf = true) : wrap64 n = n := by
  simp only [Lit.wf, IntKind.min, IntKind.max, IntKind.signed, IntKind.bits, Bool.and_eq_true, decide_eq_true_eq, if_true] at h
  unfold wrap64; omega
theorem wrap_on (L : Int) (k n : Nat) : wrap64 (wrap64 (L + k) + n) = wrap64 (L + (k + n : Nat)) := by
  unfold wrap64; push_cast; omega

/-- What the world is behind skipString. -/
def Skipped (w w' : World) (b : Nat) (s : ByteArray) (p : Nat) (q : UInt8) (L : Int) : Prop :=
  ∃ d, d = dOf s.data.toList q p ∧ At b s ((p + d + (scan q d (s.data.toList.drop (p + d))).1 : Nat) : Int) (wrap64 (L + ((scan q d (s.data.toList.drop (p + d))).2 : Nat))) w' ∧ Below b w w'

theorem byte_ne {x y : UInt8} (h : ¬ x = y) : ((x.toNat : Int) == (y.toNat : Int)) = false := by
  apply beq_false_of_ne
  intro hh
  exact h (UInt8.toNat_inj.1 (by omega))
theorem rep3 (q : UInt8) (D : ByteArray) (h : D.data.toList = [q]) : (Lib.repeatL D.data.toList 3) = List.replicate 3 q := by
  rw [h]; rfl

set_option maxRecDepth 100000 in
set_option maxHeartbeats 4000000 in
theorem skip17 (s : ByteArray) (p : Nat) (q : UInt8) (L : Int) (b : Nat) (w : World) (hs : s.size ≤ 4194304) (hp : p < s.size) (hq : s[p] = q)
    (hL : (Lit.int .i64 L).wf = true) (hb : b < w.heap.size) (g : At b s (p : Int) L w) :
    Calls Try.prog 17 #[.pointer (some ⟨b, 0, none⟩)] w fun e w' => e = .returned (.tuple #[]) ∧ Hid (Skipped w w' b s p q L) := by
  have hp' : (p : Int) < (s.size : Int) := by omega
  have hp1 : (p : Int) + 1 ≤ (s.size : Int) := by omega
  have hp2 : (0 : Int) ≤ (p : Int) := by omega
  have hp3 : (p : Int) ≤ (s.size : Int) := by omega
  have G : Hid (At b s (p : Int) L w) := g
  obtain ⟨c0, c1, c2, f1, f2⟩ := g
  have l1 : (s.extract p (p + 1)).data.toList = [q] := by
    rw [Lib.extract_data, drop_at s p hp, hq]; simp
  have HL1 : Hid ((s.extract p (p + 1)).size = 1) := by
    show _ = _
    rw [Lib.size_eq, l1]; rfl
  obtain ⟨T, hT⟩ : ∃ T, Hid ((⟨(Lib.repeatL (s.extract p (p + 1)).data.toList 3).toArray⟩ : ByteArray) = T) := ⟨_, rfl⟩
  obtain ⟨t, ht⟩ : ∃ t, Hid (Lib.hasPrefix (s.extract p s.size).data.toList T.data.toList = t) := ⟨_, rfl⟩
  have Ht : Hid (t = (List.replicate 3 q).isPrefixOf (s.data.toList.drop p)) := by
    show _ = _
    rw [← ht.out, ← hT.out, l1, Lib.extract_data]
    unfold Lib.hasPrefix
    rw [List.take_of_length_le (by rw [List.length_drop, ← Lib.size_eq]; exact Nat.le_refl _)]
    rfl
  have R20 : Hid (∀ W, Below w.heap.size w W → Calls Try.prog 20 #[.string (s.extract p (p + 1)), .int .i64 3] W fun e w' => e = .returned (.string T) ∧ Below w.heap.size w w' ∧ w'.cell? ⟨b, 0, none⟩ = some (.string s) ∧ w'.cell? ⟨b, 1, none⟩ = some (.int .i64 (p : Int))) := by
    intro W hW
    have := Try.strings_Repeat_main (s.extract p (p + 1)) 3 W (by omega) (by omega) (by rw [HL1.out]; omega) (by rw [HL1.out]; omega)
    refine this.mono ?_
    rintro e w' ⟨rfl, h2⟩
    have hb2 := hW.trans (h2.mono hW.size)
    have ga := G.out.later hb hb2
    exact ⟨by rw [hT.out], hb2, ga.c0, ga.c1⟩
  have R19 : Hid (∀ W, Calls Try.prog 19 #[.string (s.extract p s.size), .string T] W fun e w' => e = .returned (.bool t) ∧ w' = W) := by
    intro W
    refine (Try.strings_HasPrefix _ _ _).mono ?_
    rintro e w' ⟨rfl, h2⟩
    exact ⟨by rw [ht.out], h2⟩
  clear l1 hT ht
  go_enter Try.func17, Try.ntmps17
  go_wp2_with fail
  go_quiet (fail)
  go_wp2_with fail
  go_quiet (fail)
  go_wp2_with fail
  go_cut [40] from 29 to 40 (fun v wc => v = .bool t ∧ Hid (Below w.heap.size w wc))
  case first =>
    go_region_held3 (fun w' => w'.cell? ⟨b, 0, none⟩ = some (.string s) ∧ w'.cell? ⟨b, 1, none⟩ = some (.int .i64 (p : Int)) ∧ Below w.heap.size w w') (refine ⟨by first | assumption | simp [*], by first | assumption | simp [*], by first | assumption | exact (below_drewN (below_drewN (Below.refl _ _) _) _).drew | exact (below_drewN (Below.refl _ _) _).drew | (repeat (first | assumption | exact Below.refl _ _ | apply Below.drew | apply below_drewN))⟩)
      (first | (go_at_call 20; refine (R20.out _ (by first | assumption | exact below_drewN (Below.refl _ _) _ | exact (below_drewN (Below.refl _ _) _).drew)).mono ?_; rintro e w1 ⟨rfl, hb1, g0, g1⟩) | (go_at_call 19; refine (R19.out _).mono ?_; rintro e w2 ⟨rfl, hw2⟩; obtain rfl := hw2.symm))
    all_goals
      go_wp2
      go_meet
      case rel => exact ⟨rfl, by first | exact hb1 | exact hb1.drew | exact below_drewN hb1 _⟩
  case rest =>
    obtain ⟨rfl, HB⟩ := hcut
    clear R20 R19 c0 c1 c2 f1 f2
    obtain ⟨c0, c1, c2, f1, f2⟩ := G.out.later hb HB.out
    obtain ⟨d, hd⟩ : ∃ d, Hid (d = dOf s.data.toList q p) := ⟨_, rfl⟩
    obtain ⟨D, hD⟩ : ∃ D, Hid (D = s.extract p (p + d)) := ⟨_, rfl⟩
    have hDt : Hid ((t = true → d = 3) ∧ (t = false → d = 1)) := by
      show _ ∧ _
      rw [hd.out]; unfold dOf; rw [← Ht.out]
      exact ⟨fun h => by rw [h]; rfl, fun h => by rw [h]; rfl⟩
    have hroom : Hid (p + d ≤ s.size ∧ (d = 1 ∨ d = 3) ∧ D.data.toList = List.replicate d q) := by
      show _ ∧ _
      rw [hD.out, Lib.extract_data, Nat.add_sub_cancel_left]
      cases t with
      | true =>
        have h3 := hDt.out.1 rfl
        have := Ht.out.symm
        rw [List.isPrefixOf_iff_prefix] at this
        obtain ⟨r, hr⟩ := this
        rw [h3, ← hr]
        have hl := congrArg List.length hr
        simp only [List.length_append, List.length_replicate, List.length_drop, ← Lib.size_eq] at hl
        exact ⟨by omega, .inr rfl, by simp⟩
      | false =>
        have h3 := hDt.out.2 rfl
        rw [h3, drop_at s p hp, hq]
        exact ⟨by omega, .inl rfl, by simp⟩
    have hDs : D.size = d := by rw [Lib.size_eq, hroom.out.2.2, List.length_replicate]
    have hd3 : 1 ≤ d ∧ d ≤ 3 := by have := hroom.out.2.1; omega
    go_upto_if 40 with (fail)
    go_cut [3] from 41 to 54 (fun v wc => v = .string D ∧ Hid (Below w.heap.size w wc))
    case first =>
      cases t with
      | true =>
        have h3 := hDt.out.1 rfl
        subst h3
        have hp3 : (p : Int) + 3 ≤ (s.size : Int) := by have := hroom.out.1; omega
        go_wp2
        go_quiet (fail)
        go_wp2
        go_meet
        case rel => exact ⟨by rw [hD.out], below_drewN HB.out _⟩
      | false =>
        have h3 := hDt.out.2 rfl
        subst h3
        go_wp2
        go_meet
        case rel => exact ⟨by rw [hD.out], HB.out⟩
    case rest =>
      obtain ⟨rfl, HB2⟩ := hcut
      clear HB c0 c1 c2 f1 f2
      obtain ⟨c0, c1, c2, f1, f2⟩ := G.out.later hb HB2.out
      have GA : Hid (At b s (p : Int) L wc) := G.out.later hb HB2.out
      have HB3 : Hid (Below b w wc) := below_lt HB2.out hb
      have hpd : (p : Int) + d ≤ (s.size : Int) := by have := hroom.out.1; omega
      clear G HB2 hDt hD Ht
      go_wp2_with fail
      have GS : Hid (At b s ((p + d : Nat) : Int) (wrap64 (L + (0 : Nat))) (wc.setCell { block := b, off := 1 } (Value.int IntKind.i64 (↑p + ↑d)))) := (GA.out.pos _).cast (by push_cast; rfl) (by rw [Int.natCast_zero, Int.add_zero, wrap_in hL])
      have HBS : Hid (Below b w (wc.setCell { block := b, off := 1 } (Value.int IntKind.i64 (↑p + ↑d)))) := HB3.out.setCell (Nat.le_refl _) _
      go_loopw [4, 5] (fun _ _ wr => ∃ m k : Nat, m ≤ s.size ∧ Hid (Went q d s.data.toList (p + d) m k) ∧ Hid (At b s (m : Int) (wrap64 (L + k)) wr) ∧ Hid (Below b w wr)) (fun _ _ wr => s.size - posOf wr b)
      case atStart => exact ⟨p + d, 0, hroom.out.1, Went.start _ _ _ _, GS, HBS⟩
      case round =>
        clear GS HBS GA HB3 c0 c1 c2 f1 f2
        obtain ⟨m, k, hm, HW, HA, HBr⟩ := hrel
        obtain ⟨v, hv⟩ : ∃ v, Hid (wrap64 (L + (k : Int)) = v) := ⟨_, rfl⟩
        rw [hv.out] at HA
        obtain ⟨c0, c1, c2, f1, f2⟩ := HA.out
        have MS : Hid (posOf wr b = m) := by
          show _ = _
          rw [HA.out.posOf]; simp
        by_cases hlt : m < s.size
        · have hlt' : (m : Int) < (s.size : Int) := by omega
          obtain ⟨x, hx⟩ : ∃ x, s[m] = x := ⟨_, rfl⟩
          obtain ⟨E, hEd⟩ : ∃ E, Hid (E = decide (x = 92 ∧ q = 34 ∧ m + 1 < s.size)) := ⟨_, rfl⟩
          go_wp2_with fail
          go_quiet (fail)
          go_wp2_with fail
          go_quiet (fail)
          go_wp2_with fail
          go_cut [83] from 83 to 102 (fun u wd => u = .bool E ∧ Hid (At b s (m : Int) v wd) ∧ Hid (Below b w wd))
          case first =>
            by_cases h1 : x = 92
            · have e1 : ((x.toNat : Int) == 92) = true := by rw [h1]; rfl
              by_cases h2 : q = 34
              · have e2 : ((q.toNat : Int) == 34) = true := by rw [h2]; rfl
                by_cases h3 : m + 1 < s.size
                · have e3 : decide ((m : Int) + 1 < (s.size : Int)) = true := decide_eq_true (by omega)
                  have e4 : Hid (E = true) := by show _ = _; rw [hEd.out]; exact decide_eq_true ⟨h1, h2, h3⟩
                  clear h1 h2
                  go_quiet (fail)
                  go_wp2
                  go_meet
                  case rel => exact ⟨by rw [e4.out], by first | exact HA.out.drewN _ | exact (HA.out.drewN _).drewN _ | exact ((HA.out.drewN _).drewN _).drewN _, by first | exact below_drewN HBr.out _ | exact below_drewN (below_drewN HBr.out _) _ | exact below_drewN (below_drewN (below_drewN HBr.out _) _) _⟩
                · have e3 : decide ((m : Int) + 1 < (s.size : Int)) = false := decide_eq_false (by omega)
                  have e4 : Hid (E = false) := by show _ = _; rw [hEd.out]; exact decide_eq_false (fun h => h3 h.2.2)
                  clear h1 h2
                  go_quiet (fail)
                  go_wp2
                  go_meet
                  case rel => exact ⟨by rw [e4.out], by first | exact HA.out.drewN _ | exact (HA.out.drewN _).drewN _ | exact ((HA.out.drewN _).drewN _).drewN _, by first | exact below_drewN HBr.out _ | exact below_drewN (below_drewN HBr.out _) _ | exact below_drewN (below_drewN (below_drewN HBr.out _) _) _⟩
              · have e2 : ((q.toNat : Int) == 34) = false := byte_ne h2
                have e4 : Hid (E = false) := by show _ = _; rw [hEd.out]; exact decide_eq_false (fun h => h2 h.2.1)
                clear h1 h2
                go_quiet (fail)
                go_wp2
                go_meet
                case rel => exact ⟨by rw [e4.out], by first | exact HA.out.drewN _ | exact (HA.out.drewN _).drewN _ | exact ((HA.out.drewN _).drewN _).drewN _, by first | exact below_drewN HBr.out _ | exact below_drewN (below_drewN HBr.out _) _ | exact below_drewN (below_drewN (below_drewN HBr.out _) _) _⟩
            · have e1 : ((x.toNat : Int) == 92) = false := byte_ne h1
              have e4 : Hid (E = false) := by show _ = _; rw [hEd.out]; exact decide_eq_false (fun h => h1 h.1)
              clear h1
              go_quiet (fail)
              go_wp2
              go_meet
              case rel => exact ⟨by rw [e4.out], by first | exact HA.out.drewN _ | exact (HA.out.drewN _).drewN _ | exact ((HA.out.drewN _).drewN _).drewN _, by first | exact below_drewN HBr.out _ | exact below_drewN (below_drewN HBr.out _) _ | exact below_drewN (below_drewN (below_drewN HBr.out _) _) _⟩
          case rest =>
            obtain ⟨rfl, HA2, HB2⟩ := hcut
            clear HA HBr c0 c1 c2 f1 f2
            obtain ⟨c0, c1, c2, f1, f2⟩ := HA2.out
            cases E with
            | true =>
              obtain ⟨hE1, hE2, hE3⟩ := of_decide_eq_true hEd.out.symm
              obtain ⟨y, hy⟩ : ∃ y, s[m + 1] = y := ⟨_, rfl⟩
              have HN : Hid (Went q d s.data.toList (p + d) (m + 2) (k + nl [y])) := by rw [← hy]; exact HW.out.esc hE3 (hx.trans hE1) hE2
              have e3 : (m : Int) + 1 < (s.size : Int) := by omega
              clear hE1 hE2 HW hd hroom hEd
              by_cases hy0 : y = 10
              · have e4 : ((y.toNat : Int) == 10) = true := by rw [hy0]; rfl
                have HK : Hid (nl [y] = 1) := by show _ = _; rw [hy0]; rfl
                clear hy0
                go_wp2_with fail
                go_quiet (fail)
                go_wp2
                go_roundw
                case rel =>
                  refine ⟨m + 2, k + 1, by omega, by rw [← HK.out]; exact HN, ?_, ?_⟩
                  · exact At.cast ((((HA2.out.pos _).drewN _).line _).pos _) (by push_cast; omega) (by rw [← hv.out]; exact wrap_on L k 1)
                  · exact ((below_drewN (HB2.out.setCell (Nat.le_refl _) _) _).setCell (Nat.le_refl _) _).setCell (Nat.le_refl _) _
                case measure =>
                  rw [MS.out, ((((HA2.out.pos _).drewN _).line _).pos _).posOf]
                  omega
              · have e4 : ((y.toNat : Int) == 10) = false := byte_ne hy0
                have HK : Hid (nl [y] = 0) := by show _ = _; simp [nl, hy0]
                clear hy0
                go_wp2_with fail
                go_quiet (fail)
                go_wp2
                go_roundw
                case rel =>
                  refine ⟨m + 2, k, by omega, by have := HN.out; rw [HK.out] at this; exact this, ?_, ?_⟩
                  · exact At.cast (((HA2.out.pos _).drewN _).pos _) (by push_cast; omega) (by exact hv.out.symm)
                  · exact (below_drewN (HB2.out.setCell (Nat.le_refl _) _) _).setCell (Nat.le_refl _) _
                case measure =>
                  rw [MS.out, (((HA2.out.pos _).drewN _).pos _).posOf]
                  omega
            | false =>
              have hE : ¬ (x = 92 ∧ q = 34 ∧ m + 1 < s.size) := of_decide_eq_false hEd.out.symm
              have HP : Hid (x ≠ 10 → Plainly q s m) := fun h => ⟨hlt, by rw [hx]; exact h, fun h1 h2 => by
                rw [hx] at h1
                exact Nat.le_of_not_lt fun h3 => hE ⟨h1, h2, h3⟩⟩
              clear hE hEd
              by_cases hx0 : x = 10
              · have e4 : ((x.toNat : Int) == 10) = true := by rw [hx0]; rfl
                have HN : Hid (Went q d s.data.toList (p + d) (m + 1) (k + 1)) := HW.out.nl hlt (hx.trans hx0)
                clear hx0 HW hd hroom HP
                go_wp2
                go_roundw
                case rel =>
                  refine ⟨m + 1, k + 1, by omega, HN, ?_, ?_⟩
                  · exact At.cast ((HA2.out.line _).pos _) (by push_cast; omega) (by rw [← hv.out]; exact wrap_on L k 1)
                  · exact (HB2.out.setCell (Nat.le_refl _) _).setCell (Nat.le_refl _) _
                case measure =>
                  rw [MS.out, ((HA2.out.line _).pos _).posOf]
                  omega
              · have e4 : ((x.toNat : Int) == 10) = false := byte_ne hx0
                have HP2 : Hid (Plainly q s m) := HP.out hx0
                clear hx0 HP
                obtain ⟨t2, ht2⟩ : ∃ t2, Hid (Lib.hasPrefix (s.extract m s.size).data.toList D.data.toList = t2) := ⟨_, rfl⟩
                have HT2 : Hid ((List.replicate d q).isPrefixOf (s.data.toList.drop m) = t2) := by
                  show _ = _
                  rw [← ht2.out, hroom.out.2.2, Lib.extract_data]
                  unfold Lib.hasPrefix
                  rw [List.take_of_length_le (by rw [List.length_drop, ← Lib.size_eq]; exact Nat.le_refl _)]
                have R19 : Hid (∀ W, Calls Try.prog 19 #[.string (s.extract m s.size), .string D] W fun e w' => e = .returned (.bool t2) ∧ w' = W) := by
                  intro W
                  refine (Try.strings_HasPrefix _ _ _).mono ?_
                  rintro e w' ⟨rfl, h2⟩
                  exact ⟨by rw [ht2.out], h2⟩
                clear ht2
                cases t2 with
                | false =>
                  have HN : Hid (Went q d s.data.toList (p + d) (m + 1) k) := HW.out.step HP2.out HT2.out
                  clear HW hd hroom HP2 HT2
                  go_wp2_with fail
                  go_quiet ((go_at_call 19; exact Calls.quiet_of_same (R19.out _)))
                  go_wp2
                  go_roundw
                  case rel =>
                    refine ⟨m + 1, k, by omega, HN, ?_, ?_⟩
                    · exact At.cast ((HA2.out.drewN _).pos _) (by push_cast; omega) (by exact hv.out.symm)
                    · exact (below_drewN HB2.out _).setCell (Nat.le_refl _) _
                  case measure =>
                    rw [MS.out, ((HA2.out.drewN _).pos _).posOf]
                    omega
                | true =>
                  have HN := HW.out.hit HP2.out (by omega) HT2.out
                  have HSc : Hid (scan q d (s.data.toList.drop (p + d)) = (m - (p + d) + d + (if d = 3 then more q 2 (s.data.toList.drop (m + d)) else 0), k)) := HN
                  clear HN
                  have hmd : m + d ≤ s.size := by
                    have := HT2.out
                    rw [List.isPrefixOf_iff_prefix] at this
                    have := this.length_le
                    rw [List.length_replicate, List.length_drop, ← Lib.size_eq] at this
                    omega
                  have hmd' : (m : Int) + d ≤ (s.size : Int) := by omega
                  have hpm : Hid (p + d ≤ m) := HW.out.1
                  clear HW HP2 HT2
                  go_wp2_with fail
                  go_quiet ((go_at_call 19; exact Calls.quiet_of_same (R19.out _)))
                  go_wp2_with fail
                  go_loopw [5] (fun u wi => ∃ n P : Nat, u = .int .i64 (n : Int) ∧ n ≤ 2 ∧ Hid (P = m + d + n) ∧ P ≤ s.size ∧ Hid (MoreIs q d s.data.toList (m + d) n) ∧ Hid (At b s (P : Int) v wi) ∧ Hid (Below b w wi)) (fun u _ => 2 - (intOf u).toNat)
                  case atStart =>
                    refine ⟨0, m + d, rfl, by omega, rfl, hmd, MoreIs.start _ _ _ _, ?_, ?_⟩
                    · exact At.cast ((HA2.out.drewN _).pos _) (by push_cast; omega) rfl
                    · exact (below_drewN HB2.out _).setCell (Nat.le_refl _) _
                  case round =>
                    clear HA2 HB2 c0 c1 c2 f1 f2 R19
                    obtain ⟨n, P, rfl, hn, hP, hPs, HM, HA3, HB3⟩ := hrel
                    obtain ⟨c0, c1, c2, f1, f2⟩ := HA3.out
                    by_cases hgo : d = 3 ∧ n < 2 ∧ ∃ h : P < s.size, s[P] = q
                    · obtain ⟨hd3', hn2, hPl, hz⟩ := hgo
                      have HM2 : Hid (MoreIs q d s.data.toList (m + d) (n + 1)) := by
                        have h := hP.out
                        subst h
                        exact HM.out.on hd3' hn2 hPl hz
                      have e5 : ((d : Int) == 3) = true := by rw [hd3']; rfl
                      have e6 : decide ((n : Int) < 2) = true := decide_eq_true (by omega)
                      have e7 : decide ((P : Int) < (s.size : Int)) = true := decide_eq_true (by omega)
                      have e7' : (P : Int) < (s.size : Int) := by omega
                      have e8 : ((q.toNat : Int) == (q.toNat : Int)) = true := by simp
                      clear hd3' HM hd hroom HSc
                      go_wp2_with fail
                      go_quiet (fail)
                      go_wp2
                      go_roundw
                      case rel => exact ⟨n + 1, P + 1, by go_num, by omega, by show _ = _; rw [hP.out]; rfl, by omega, HM2, At.cast ((HA3.out.drewN _).pos _) (by push_cast; rfl) rfl, (below_drewN HB3.out _).setCell (Nat.le_refl _) _⟩
                      case measure => simp [intOf]; omega
                    · have HE : Hid ((if d = 3 then more q 2 (s.data.toList.drop (m + d)) else 0) = n) := by
                        have h := hP.out
                        subst h
                        exact HM.out.stop (fun h1 h2 h3 h4 => hgo ⟨h1, h2, h3, h4⟩)
                      have HQ : Hid (∀ w', At b s (P : Int) v w' → Below b w w' → Skipped w w' b s p q L) := by
                        intro w' ha hbw
                        refine ⟨d, hd.out, ?_, hbw⟩
                        rw [HSc.out, HE.out]
                        exact ha.cast (by have := hP.out; have := hpm.out; simp only []; omega) hv.out.symm
                      clear HE HM HSc hd hroom
                      by_cases hd3' : d = 3
                      · have e5 : ((d : Int) == 3) = true := by rw [hd3']; rfl
                        by_cases hn2 : n < 2
                        · have e6 : decide ((n : Int) < 2) = true := decide_eq_true (by omega)
                          by_cases hPl : P < s.size
                          · have e7 : decide ((P : Int) < (s.size : Int)) = true := decide_eq_true (by omega)
                            have e7' : (P : Int) < (s.size : Int) := by omega
                            obtain ⟨z, hz⟩ : ∃ z, s[P] = z := ⟨_, rfl⟩
                            have e8 : ((z.toNat : Int) == (q.toNat : Int)) = false := byte_ne (fun h => hgo ⟨hd3', hn2, hPl, hz.trans h⟩)
                            clear hgo hd3'
                            go_wp2_with fail
                            go_quiet (fail)
                            go_wp2
                            first | (simp only [Exit.inBlock, Exit.then]; refine bodyPost_ret (results_none rfl _ _ _) rfl ?_) | refine bodyPost_ret (results_none rfl _ _ _) rfl ?_
                            exact ⟨rfl, HQ.out _ (HA3.out.drewN _) (below_drewN HB3.out _)⟩
                          · have e7 : decide ((P : Int) < (s.size : Int)) = false := decide_eq_false (by omega)
                            clear hgo hd3'
                            go_wp2_with fail
                            go_quiet (fail)
                            go_wp2
                            first | (simp only [Exit.inBlock, Exit.then]; refine bodyPost_ret (results_none rfl _ _ _) rfl ?_) | refine bodyPost_ret (results_none rfl _ _ _) rfl ?_
                            exact ⟨rfl, HQ.out _ (HA3.out.drewN _) (below_drewN HB3.out _)⟩
                        · have e6 : decide ((n : Int) < 2) = false := decide_eq_false (by omega)
                          clear hgo hd3'
                          go_wp2_with fail
                          go_quiet (fail)
                          go_wp2
                          first | (simp only [Exit.inBlock, Exit.then]; refine bodyPost_ret (results_none rfl _ _ _) rfl ?_) | refine bodyPost_ret (results_none rfl _ _ _) rfl ?_
                          exact ⟨rfl, HQ.out _ (HA3.out.drewN _) (below_drewN HB3.out _)⟩
                      · have e5 : ((d : Int) == 3) = false := beq_false_of_ne (by omega)
                        clear hgo hd3'
                        go_wp2_with fail
                        go_quiet (fail)
                        go_wp2
                        first | (simp only [Exit.inBlock, Exit.then]; refine bodyPost_ret (results_none rfl _ _ _) rfl ?_) | refine bodyPost_ret (results_none rfl _ _ _) rfl ?_
                        exact ⟨rfl, HQ.out _ (HA3.out.drewN _) (below_drewN HB3.out _)⟩
        · have hlt' : ¬ (m : Int) < (s.size : Int) := by omega
          go_wp2_with fail
          go_quiet (fail)
          go_wp2
          go_end0
          refine ⟨rfl, d, hd.out, ?_, below_drewN HBr.out _⟩
          rw [HW.out.over (by omega)]
          exact (HA.out.drewN _).cast (by have := HW.out.1; push_cast; omega) hv.out.symm
end Go.Proofs.Qxb6600908a
