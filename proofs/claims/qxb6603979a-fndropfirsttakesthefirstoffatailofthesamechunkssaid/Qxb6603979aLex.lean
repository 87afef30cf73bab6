/-
  THE PLAIN LAW OF rangeOf: lists of bytes in lexical order. No Go in sight but the model's own order on strings.
-/
import Derived.Lib.MinMaxS
import Derived.Laws.BytesArg
import Derived.Lib.SlBytesRow
namespace Go.Proofs.Qxb6603979a
open Go

/-- Lexical order on lists of numbers. -/
def lexB : List Int → List Int → Bool
  | _, [] => false
  | [], _ :: _ => true
  | a :: x, b :: y => decide (a < b) || (decide (a = b) && lexB x y)
/-- k begins with p. -/
def begins : List Int → List Int → Bool
  | _, [] => true
  | [], _ :: _ => false
  | a :: x, b :: y => decide (a = b) && begins x y
/-- Every number is a byte's. -/
def Byt (l : List Int) : Prop := ∀ x ∈ l, 0 ≤ x ∧ x < 256
/-- Where the keys that begin with p end. -/
def pend : List Int → Option (List Int)
  | [] => none
  | c :: r => match pend r with
    | some t => some (c :: t)
    | none => if c = 255 then none else some [c + 1]

theorem lexB_trans : ∀ a b c : List Int, lexB a b = true → lexB b c = true → lexB a c = true
  | a, b, [], _, h => by cases b <;> simp [lexB] at h
  | a, [], c :: z, h, _ => by cases a <;> simp [lexB] at h
  | [], b :: y, c :: z, _, _ => by simp [lexB]
  | a :: x, b :: y, c :: z, h1, h2 => by
    simp only [lexB, Bool.or_eq_true, Bool.and_eq_true, decide_eq_true_eq] at h1 h2 ⊢
    rcases h1 with h1 | ⟨rfl, h1⟩
    · rcases h2 with h2 | ⟨rfl, h2⟩
      · exact .inl (by omega)
      · exact .inl h1
    · rcases h2 with h2 | ⟨rfl, h2⟩
      · exact .inl h2
      · exact .inr ⟨rfl, lexB_trans x y z h1 h2⟩
theorem lexB_co : ∀ a b c : List Int, lexB a c = true → lexB b c = false → lexB a b = true
  | a, b, [], h, _ => by cases a <;> simp [lexB] at h
  | a, [], c :: z, _, h => by simp [lexB] at h
  | [], b :: y, c :: z, _, _ => by simp [lexB]
  | a :: x, b :: y, c :: z, h1, h2 => by
    simp only [lexB, Bool.or_eq_true, Bool.and_eq_true, decide_eq_true_eq, Bool.or_eq_false_iff, Bool.and_eq_false_iff, decide_eq_false_iff_not] at h1 h2 ⊢
    obtain ⟨g1, g2⟩ := h2
    rcases h1 with h1 | ⟨rfl, h1⟩
    · by_cases e : a < b
      · exact .inl e
      · omega
    · by_cases e : a < b
      · exact .inl e
      · obtain rfl : b = a := by omega
        refine .inr ⟨rfl, lexB_co x y z h1 ?_⟩
        rcases g2 with g2 | g2
        · exact absurd rfl g2
        · exact g2

theorem begins_iff : ∀ p k : List Int, Byt k → (begins k p = true ↔ lexB k p = false ∧ ∀ t, pend p = some t → lexB k t = true)
  | [], k, _ => by cases k <;> simp [begins, lexB, pend]
  | c :: r, [], _ => by simp [begins, lexB]
  | c :: r, d :: k, hk => by
    have ih := begins_iff r k (fun x hx => hk x (by simp [hx]))
    have hd := hk d (by simp)
    simp only [begins, Bool.and_eq_true, decide_eq_true_eq, ih]
    simp only [pend]
    cases hp : pend r with
    | some t =>
      simp only [hp, Option.some.injEq, forall_eq'] at ih ⊢
      simp only [lexB, Bool.or_eq_true, Bool.and_eq_true, decide_eq_true_eq, Bool.or_eq_false_iff, Bool.and_eq_false_iff, decide_eq_false_iff_not]
      constructor
      · rintro ⟨rfl, h1, h2⟩
        exact ⟨⟨by omega, .inr h1⟩, .inr ⟨rfl, h2⟩⟩
      · rintro ⟨⟨h1, h2⟩, h3 | ⟨rfl, h3⟩⟩
        · exact absurd h3 h1
        · rcases h2 with h2 | h2
          · exact absurd rfl h2
          · exact ⟨rfl, h2, h3⟩
    | none =>
      by_cases hc : c = 255
      · subst hc
        simp only [lexB, Bool.or_eq_false_iff, Bool.and_eq_false_iff, decide_eq_false_iff_not, if_true]
        constructor
        · rintro ⟨rfl, h1, _⟩
          exact ⟨⟨by omega, .inr h1⟩, fun t ht => by cases ht⟩
        · rintro ⟨⟨h1, h2⟩, _⟩
          obtain rfl : d = 255 := by omega
          rcases h2 with h2 | h2
          · exact absurd rfl h2
          · exact ⟨rfl, h2, fun t ht => by cases ht⟩
      · simp only [hc, if_false, Option.some.injEq, forall_eq']
        simp only [lexB, Bool.or_eq_true, Bool.and_eq_true, decide_eq_true_eq, Bool.or_eq_false_iff, Bool.and_eq_false_iff, decide_eq_false_iff_not]
        constructor
        · rintro ⟨rfl, h1, _⟩
          exact ⟨⟨by omega, .inr h1⟩, .inl (by omega)⟩
        · rintro ⟨⟨h1, h2⟩, h3⟩
          have h3' : d < c + 1 := by
            rcases h3 with h3 | ⟨_, h3⟩
            · exact h3
            · cases h3
          obtain rfl : d = c := by omega
          rcases h2 with h2 | h2
          · exact absurd rfl h2
          · exact ⟨rfl, h2, fun t ht => by cases ht⟩

/-- The last number of p that is no 255 stands at place i. -/
def SplitAt (p : List Int) (i : Nat) : Prop := i < p.length ∧ p.getD i 0 ≠ 255 ∧ ∀ j, i < j → j < p.length → p.getD j 0 = 255
def AllFF (p : List Int) : Prop := ∀ j, j < p.length → p.getD j 0 = 255
theorem pend_all : ∀ p : List Int, AllFF p → pend p = none
  | [], _ => rfl
  | c :: r, h => by
    have h0 := h 0 (by simp)
    have ih := pend_all r (fun j hj => by have := h (j + 1) (by simpa using hj); simpa using this)
    simp at h0
    simp [pend, ih, h0]
theorem pend_split : ∀ (p : List Int) (i : Nat), SplitAt p i → pend p = some (p.take i ++ [p.getD i 0 + 1])
  | [], i, h => by have := h.1; simp at this
  | c :: r, 0, h => by
    obtain ⟨_, h1, h2⟩ := h
    have ha := pend_all r (fun j hj => by have := h2 (j + 1) (by omega) (by simpa using hj); simpa using this)
    simp at h1
    simp [pend, ha, h1]
  | c :: r, i + 1, h => by
    obtain ⟨h0, h1, h2⟩ := h
    have ih := pend_split r i ⟨by simpa using h0, by simpa using h1, fun j h3 h4 => by have := h2 (j + 1) (by omega) (by simpa using h4); simpa using this⟩
    simp [pend, ih]

/-- THE PLAIN LAW. -/
def loOf (s p : List Int) : List Int := if lexB s p = true then p else s
def InSpan (k p s e : List Int) : Prop := begins k p = true ∧ lexB k s = false ∧ (e = [] ∨ lexB k e = true)
theorem lo_iff (k s p : List Int) : lexB k (loOf s p) = false ↔ lexB k s = false ∧ lexB k p = false := by
  unfold loOf
  by_cases h : lexB s p = true
  · rw [if_pos h]
    refine ⟨fun h1 => ⟨?_, h1⟩, fun h1 => h1.2⟩
    by_cases h2 : lexB k s = true
    · rw [lexB_trans k s p h2 h] at h1; cases h1
    · simpa using h2
  · rw [if_neg h]
    refine ⟨fun h1 => ⟨h1, ?_⟩, fun h1 => h1.1⟩
    by_cases h2 : lexB k p = true
    · rw [lexB_co k s p h2 (by simpa using h)] at h1; cases h1
    · simpa using h2
theorem min_iff (k t e : List Int) (h : lexB t e = true) : lexB k t = true ↔ lexB k t = true ∧ lexB k e = true :=
  ⟨fun h1 => ⟨h1, lexB_trans k t e h1 h⟩, fun h1 => h1.1⟩
theorem min_iff' (k t e : List Int) (h : lexB t e = false) : lexB k e = true ↔ lexB k t = true ∧ lexB k e = true :=
  ⟨fun h1 => ⟨lexB_co k t e h1 h, h1⟩, fun h1 => h1.2⟩
/-- What rangeOf leaves as the upper end: none, or some. -/
def hiOf (p e : List Int) : List Int := match pend p with
  | none => e
  | some t => if e = [] ∨ lexB t e = true then t else e
def hasHi (p e : List Int) : Bool := match pend p with
  | none => !e.isEmpty
  | some _ => true
theorem range_law (k p s e : List Int) (hk : Byt k) : (lexB k (loOf s p) = false ∧ (hasHi p e = false ∨ lexB k (hiOf p e) = true)) ↔ InSpan k p s e := by
  unfold InSpan hasHi hiOf
  rw [lo_iff, begins_iff p k hk]
  cases hp : pend p with
  | none =>
    simp only [Bool.not_eq_false', List.isEmpty_iff]
    constructor
    · rintro ⟨⟨h1, h2⟩, h3⟩
      exact ⟨⟨h2, fun t ht => by cases ht⟩, h1, h3⟩
    · rintro ⟨⟨h1, _⟩, h2, h3⟩
      exact ⟨⟨h2, h1⟩, h3⟩
  | some t =>
    simp only [Bool.true_eq_false, false_or, Option.some.injEq, forall_eq']
    by_cases he : e = []
    · subst he
      simp only [true_or, if_true, and_true]
      constructor
      · rintro ⟨⟨h1, h2⟩, h3⟩; exact ⟨⟨h2, h3⟩, h1⟩
      · rintro ⟨⟨h1, h2⟩, h3⟩; exact ⟨⟨h3, h1⟩, h2⟩
    · simp only [he, false_or]
      by_cases hl : lexB t e = true
      · rw [if_pos hl]
        constructor
        · rintro ⟨⟨h1, h2⟩, h3⟩; exact ⟨⟨h2, h3⟩, h1, lexB_trans k t e h3 hl⟩
        · rintro ⟨⟨h1, h2⟩, h3, h4⟩; exact ⟨⟨h3, h1⟩, h2⟩
      · rw [if_neg hl]
        constructor
        · rintro ⟨⟨h1, h2⟩, h3⟩; exact ⟨⟨h2, lexB_co k t e h3 (by simpa using hl)⟩, h1, h3⟩
        · rintro ⟨⟨h1, h2⟩, h3, h4⟩; exact ⟨⟨h3, h1⟩, h4⟩

/-! ### the model's order on strings -/
theorem less_nums : ∀ x y : List Int, Byt x → Byt y → Op.bytesLess (x.map fun n => UInt8.ofNat n.toNat) (y.map fun n => UInt8.ofNat n.toNat) = lexB x y
  | x, [], _, _ => by cases x <;> simp [Op.bytesLess, lexB]
  | [], b :: y, _, _ => by simp [Op.bytesLess, lexB]
  | a :: x, b :: y, hx, hy => by
    have ih := less_nums x y (fun z hz => hx z (by simp [hz])) (fun z hz => hy z (by simp [hz]))
    have ha := hx a (by simp)
    have hb := hy b (by simp)
    have e1 : (UInt8.ofNat a.toNat).toNat = a.toNat := by simp; omega
    have e2 : (UInt8.ofNat b.toNat).toNat = b.toNat := by simp; omega
    have l1 : decide (UInt8.ofNat a.toNat < UInt8.ofNat b.toNat) = decide (a < b) := by
      apply decide_eq_decide.2
      rw [UInt8.lt_iff_toNat_lt, e1, e2]; omega
    have l2 : (UInt8.ofNat a.toNat == UInt8.ofNat b.toNat) = decide (a = b) := by
      rw [Bool.eq_iff_iff]
      simp only [beq_iff_eq, decide_eq_true_eq, ← UInt8.toNat_inj, e1, e2]; omega
    simp only [List.map_cons, Op.bytesLess, lexB, ih, l1, l2]
theorem less_str (x y : List Int) (hx : Byt x) (hy : Byt y) : Op.bytesLess (strOfNums x).toList (strOfNums y).toList = lexB x y := by
  rw [Lib.toList_data, Lib.toList_data, strOfNums_data, strOfNums_data]
  exact less_nums x y hx hy
theorem max_str (x y : List Int) (hx : Byt x) (hy : Byt y) : Lib.maxS (strOfNums x) (strOfNums y) = strOfNums (loOf x y) := by
  unfold Lib.maxS loOf
  have h := less_str x y hx hy
  rw [Lib.toList_data, Lib.toList_data, Proofs.bytesLess_eq] at h
  by_cases hl : (strOfNums x).data.toList < (strOfNums y).data.toList
  · rw [if_pos hl, if_pos (by rw [← h]; simpa using hl)]
  · rw [if_neg hl, if_neg (by rw [← h]; simpa using hl)]
theorem str_nil : strOfNums [] = ByteArray.empty := rfl
theorem str_append (x y : List Int) : strOfNums x ++ strOfNums y = strOfNums (x ++ y) := by
  apply ByteArray.ext
  simp [strOfNums]
theorem encode_small (n : Int) (h0 : 0 ≤ n) (h1 : n < 128) : Utf8.encode n = strOfNums [n] := by
  have hv : Utf8.valid n = true := by simp [Utf8.valid]; omega
  unfold Utf8.encode
  have hc : n.toNat < 128 := by omega
  simp only [hv, if_true, hc]
  rfl
theorem str_empty_iff (x : List Int) : (strOfNums x).toList.isEmpty = x.isEmpty := by
  rw [Lib.toList_data, strOfNums_data]
  cases x <;> rfl
end Go.Proofs.Qxb6603979a
