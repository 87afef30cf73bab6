/-
  THE WALKS of rangeOf and ZZRangeOf.
-/
import Derived.Test.Qxb6603979aWalkE
namespace Go.Proofs.Qxb6603979a
open Go.ChangeShapes Go.WideShapes Go.ChangeAt Go.RowKit

/-- 'string(b)' of such a slice. -/
theorem conv_any (w : World) (a : Option Addr) (xs : List Int) (c : Nat) (r : BytesAt w a xs) : (convert 28 9 (.slice a xs.length c)).run Try.prog w = .ok (.string (strOfNums xs)) w := by
  rcases r with rfl | ⟨b, off, rfl, hz⟩
  · cases a with
    | none => exact run_convert_bytes_nil w 28 5 Try.underlying28 Try.underlying5 _ _ 9 Try.underlying9
    | some x =>
      rw [run_convert_bytes_string w 28 9 5 _ _ c Try.underlying28 Try.underlying5 Try.underlying9]
      exact run_bytesToString (P := Try.prog) w x 0 c [] (by simp [loadCells, loadCellsFrom])
  · exact run_convert_bytes_arg w 28 5 Try.underlying28 Try.underlying5 b off _ c xs rfl hz 9 Try.underlying9

theorem decide_len (e : List Int) : decide (0 < e.length) = !e.isEmpty := by cases e <;> simp

set_option maxHeartbeats 1000000 in
theorem range_any (a1 a2 a3 : Option Addr) (p s e : List Int) (c1 c2 c3 : Nat) (w : World) (hp : p.length ≤ 1048576) (_hs : s.length ≤ 1048576) (_he : e.length ≤ 1048576) (hc1 : p.length ≤ c1) (bp : Byt p) (bs : Byt s) (be : Byt e)
    (r1 : BytesAt w a1 p) (r2 : BytesAt w a2 s) (r3 : BytesAt w a3 e) (h7 : Hid (Seven p)) :
    Calls Try.prog 33 #[.agg #[.slice a1 p.length c1, .slice a2 s.length c2, .slice a3 e.length c3]] w fun x w' => x = .returned (.agg #[.string (strOfNums (loOf s p)), .string (strOfNums (hiOf p e)), .bool (hasHi p e)]) ∧ Below w.heap.size w w' := by
  have k1 : ∀ o o', (convert 28 9 (.slice a1 p.length c1)).run Try.prog ((w.alloc o).alloc o') = .ok (.string (strOfNums p)) ((w.alloc o).alloc o') := fun o o' => conv_any _ a1 p c1 (r1.later (((Below.refl _ _).alloc (Nat.le_refl _) _).alloc (by simp) _))
  have k2 : ∀ o o', (convert 28 9 (.slice a2 s.length c2)).run Try.prog ((w.alloc o).alloc o') = .ok (.string (strOfNums s)) ((w.alloc o).alloc o') := fun o o' => conv_any _ a2 s c2 (r2.later (((Below.refl _ _).alloc (Nat.le_refl _) _).alloc (by simp) _))
  have k3 : ∀ o o', (convert 28 9 (.slice a3 e.length c3)).run Try.prog ((w.alloc o).alloc o') = .ok (.string (strOfNums e)) ((w.alloc o).alloc o') := fun o o' => conv_any _ a3 e c3 (r3.later (((Below.refl _ _).alloc (Nat.le_refl _) _).alloc (by simp) _))
  have km : ∀ (W : World) (ts : Array TypeId) (t : TypeId), (Builtin.max_ ts t #[.string (strOfNums s), .string (strOfNums p)]).run Try.prog W = .ok (.string (strOfNums (loOf s p))) W := fun W ts t => by rw [Lib.run_max_strs, max_str s p bs bp]
  obtain ⟨lo, hlo⟩ : ∃ lo, Hid (strOfNums (loOf s p) = lo) := ⟨_, rfl⟩
  rw [hlo.out] at km ⊢
  obtain ⟨E, hE⟩ : ∃ E, Hid (strOfNums e = E) := ⟨_, rfl⟩
  rw [hE.out] at k3
  obtain ⟨hasE, hhas⟩ : ∃ hasE, Hid (decide (0 < e.length) = hasE) := ⟨_, rfl⟩
  go_enter Try.func33, Try.ntmps33
  go_wp2
  rw [hhas.out]
  clear k1 k2 k3 km
  go_loop [4] (fun i => ∃ m : Nat, i = .int .i64 ((m : Int) - 1) ∧ m ≤ p.length ∧ Hid (∀ j, m ≤ j → j < p.length → p.getD j 0 = 255)) (fun i => (intOf i + 1).toNat)
  case atStart => exact ⟨p.length, rfl, Nat.le_refl _, fun j h1 h2 => by omega⟩
  case round =>
    obtain ⟨m, rfl, hm, HB⟩ := hrel
    match m, hm, HB with
    | 0, hm, HB =>
      have hpe : pend p = none := pend_all p (fun j hj => HB.out j (by omega) hj)
      have e1 : Hid (strOfNums (hiOf p e) = E) := by show _ = _; unfold hiOf; rw [hpe]; exact hE.out
      have e2 : Hid (hasHi p e = hasE) := by show _ = _; unfold hasHi; rw [hpe, ← hhas.out]; exact (decide_len e).symm
      clear HB hpe
      go_wp2
      refine bodyPost_ret (v := .agg #[.string lo, .string E, .bool hasE]) (by simp [results, Try.results33, go_sem]) rfl ⟨by rw [e1.out, e2.out], ?_⟩
      exact (((Below.refl _ _).alloc (Nat.le_refl _) _).alloc (by simp) _).alloc (by simp; omega) _
    | m + 1, hm, HB =>
      have em : ((m + 1 : Nat) : Int) - 1 = (m : Int) := by omega
      rw [em]
      obtain ⟨b, o, rfl, z⟩ : ∃ b off, a1 = some ⟨b, off, none⟩ ∧ ∀ j, j < p.length → w.cell? ⟨b, off + j, none⟩ = some (.int .u8 (p.getD j 0)) := by
        rcases r1 with h | h
        · rw [h] at hm; simp at hm
        · exact h
      obtain ⟨x, hx⟩ : ∃ x, Hid (p.getD m 0 = x) := ⟨_, rfl⟩
      have g : w.cell? ⟨b, o + m, none⟩ = some (.int .u8 x) := by rw [← hx.out]; exact z m (by omega)
      have g3 : ∀ o1 o2 o3, (((w.alloc o1).alloc o2).alloc o3).cell? ⟨b, o + m, none⟩ = some (.int .u8 x) := fun o1 o2 o3 => cell_later (((((Below.refl _ _).alloc (Nat.le_refl _) _).alloc (by simp) _).alloc (by simp; omega) _)) g
      have k4 : ∀ o1 o2 o3 q, (convert 28 9 (.slice (some ⟨b, o, none⟩) m c1)).run Try.prog ((((w.alloc o1).alloc o2).alloc o3).drewN q) = .ok (.string (strOfNums (p.take m))) ((((w.alloc o1).alloc o2).alloc o3).drewN q) := fun o1 o2 o3 q => by
        have hlt : (p.take m).length = m := by simp; omega
        have hr : BytesAt w (some ⟨b, o, none⟩) (p.take m) := .inr ⟨b, o, rfl, fun j hj => by rw [z j (by omega)]; simp; rw [List.getElem?_take_of_lt (by omega)]⟩
        have := conv_any ((((w.alloc o1).alloc o2).alloc o3).drewN q) (some ⟨b, o, none⟩) (p.take m) c1 ((hr.later (((((Below.refl _ _).alloc (Nat.le_refl _) _).alloc (by simp) _).alloc (by simp; omega) _))).drewN q)
        rw [hlt] at this
        exact this
      clear g
      clear em
      by_cases hff : x = 255
      · subst hff
        have HB2 : Hid (∀ j, m ≤ j → j < p.length → p.getD j 0 = 255) := fun j h1 h2 => by
          by_cases hj : j = m
          · subst hj; exact hx.out
          · exact HB.out j (by omega) h2
        clear HB z
        go_wp2
        go_round
        case rel => exact ⟨m, rfl, by omega, HB2⟩
        case measure => simp [intOf]
      · have hff' : (x != 255) = true := by simpa using hff
        have HS : Hid (SplitAt p m) := ⟨by omega, by rw [hx.out]; exact hff, fun j h1 h2 => HB.out j (by omega) h2⟩
        have hx0 : 0 ≤ x := by rw [← hx.out]; have := bp (p.getD m 0) (by simp [List.getElem?_eq_getElem (show m < p.length by omega)]); omega
        have hx1 : x < 127 := by
          rcases h7.out with h | ⟨i, h1, h2⟩
          · exact absurd (h m (by omega)) (by rw [hx.out]; exact hff)
          · have : i = m := by
              obtain ⟨g1, g2, g3⟩ := h1
              obtain ⟨f1, f2, f3⟩ := HS.out
              by_cases hlt : i < m
              · exact absurd (g3 m hlt f1) f2
              · by_cases hgt : m < i
                · exact absurd (f3 i hgt g1) g2
                · omega
            subst this; rw [← hx.out]; exact h2
        have hpe := pend_split p m HS.out
        rw [hx.out] at hpe
        obtain ⟨T, hT⟩ : ∃ T, Hid (p.take m ++ [x + 1] = T) := ⟨_, rfl⟩
        rw [hT.out] at hpe
        have bT : Byt T := by
          rw [← hT.out]
          intro y hy
          rcases List.mem_append.1 hy with h | h
          · exact bp y (List.mem_of_mem_take h)
          · simp at h; omega
        have hlTe := less_str T e bT be
        have happ : strOfNums (p.take m) ++ strOfNums [x + 1] = strOfNums T := by rw [str_append, hT.out]
        have henc : Utf8.encode (x + 1) = strOfNums [x + 1] := encode_small (x + 1) (by omega) (by omega)
        have hsz1 : (strOfNums (p.take m)).size = m := by rw [strOfNums_size]; simp; omega
        have hsz2 : (strOfNums [x + 1]).size = 1 := by rw [strOfNums_size]; rfl
        obtain ⟨B1, hB1⟩ : ∃ B, strOfNums (p.take m) = B := ⟨_, rfl⟩
        obtain ⟨B2, hB2⟩ : ∃ B, strOfNums [x + 1] = B := ⟨_, rfl⟩
        obtain ⟨BT, hBT⟩ : ∃ B, strOfNums T = B := ⟨_, rfl⟩
        rw [hE.out] at hlTe
        rw [hB1] at k4 happ hsz1
        rw [hB2] at happ henc hsz2
        rw [hBT] at happ hlTe
        have HpT : Hid (pend p = some T) := hpe
        have HBT : Hid (strOfNums T = BT) := hBT
        have HlT : Hid (Op.bytesLess BT.toList E.toList = lexB T e) := hlTe
        have hmc : (m : Int) ≤ (c1 : Int) := by omega
        have hmp : (m : Int) < (p.length : Int) := by omega
        clear HB z HS hB1 hB2 hBT hpe hlTe
        cases hasE with
        | false =>
          have hnil : e = [] := by have := hhas.out; simpa using this
          have e1 : Hid (strOfNums (hiOf p e) = BT) := by show _ = _; unfold hiOf; rw [HpT.out]; simp only [hnil, true_or, if_true]; exact HBT.out
          have e2 : Hid (hasHi p e = true) := by show _ = _; unfold hasHi; rw [HpT.out]
          clear hnil
          go_wp2
          go_quiet (fail)
          go_wp2
          refine bodyPost_ret (v := .agg #[.string lo, .string BT, .bool true]) (by simp [results, Try.results33, go_sem]) rfl ⟨by rw [e1.out, e2.out], ?_⟩
          exact ((((((below_drewN ((((Below.refl _ _).alloc (Nat.le_refl _) _).alloc (by simp) _).alloc (by simp; omega) _) _).setCell (by dsimp only; omega) _).setCell (by dsimp only; omega) _).setCell (by dsimp only; omega) _).setCell (by dsimp only; omega) _).setCell (by dsimp only; omega) _)
        | true =>
          have hne : ¬ e = [] := by have := hhas.out; intro h; rw [h] at this; simp at this
          have e2 : Hid (hasHi p e = true) := by show _ = _; unfold hasHi; rw [HpT.out]
          by_cases hl : lexB T e = true
          · have e1 : Hid (strOfNums (hiOf p e) = BT) := by show _ = _; unfold hiOf; rw [HpT.out]; simp only [hl, or_true, if_true]; exact HBT.out
            have hless : Op.bytesLess BT.toList E.toList = true := by rw [HlT.out]; exact hl
            clear hl hne
            go_wp2
            go_quiet (fail)
            go_wp2
            refine bodyPost_ret (v := .agg #[.string lo, .string BT, .bool true]) (by simp [results, Try.results33, go_sem]) rfl ⟨by rw [e1.out, e2.out], ?_⟩
            exact ((((((below_drewN ((((Below.refl _ _).alloc (Nat.le_refl _) _).alloc (by simp) _).alloc (by simp; omega) _) _).setCell (by dsimp only; omega) _).setCell (by dsimp only; omega) _).setCell (by dsimp only; omega) _).setCell (by dsimp only; omega) _).setCell (by dsimp only; omega) _)
          · have e1 : Hid (strOfNums (hiOf p e) = E) := by show _ = _; unfold hiOf; rw [HpT.out]; simp [hl, hne]; exact hE.out
            have hless : Op.bytesLess BT.toList E.toList = false := by rw [HlT.out]; simpa using hl
            clear hl hne
            go_wp2
            go_quiet (fail)
            go_wp2
            refine bodyPost_ret (v := .agg #[.string lo, .string E, .bool true]) (by simp [results, Try.results33, go_sem]) rfl ⟨by rw [e1.out, e2.out], ?_⟩
            exact ((((below_drewN ((((Below.refl _ _).alloc (Nat.le_refl _) _).alloc (by simp) _).alloc (by simp; omega) _) _).setCell (by dsimp only; omega) _).setCell (by dsimp only; omega) _).setCell (by dsimp only; omega) _)
end Go.Proofs.Qxb6603979a
