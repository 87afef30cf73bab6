/-
  THE PLAIN LAW OF skipString: no Go in this text.
-/
import Derived.Lib.Strings
import Derived.Lib.Repeat
namespace Go.Proofs.Qxb6600908a
open Go

/-- How many newlines. -/
def nl : List UInt8 → Nat
  | [] => 0
  | c :: r => (if c = 10 then 1 else 0) + nl r
theorem nl_append : ∀ a b : List UInt8, nl (a ++ b) = nl a + nl b
  | [], b => by simp [nl]
  | c :: a, b => by simp [nl, nl_append a b, Nat.add_assoc]
/-- At most n bytes q at the head. -/
def more (q : UInt8) : Nat → List UInt8 → Nat
  | 0, _ => 0
  | _ + 1, [] => 0
  | n + 1, c :: r => if c = q then more q n r + 1 else 0

/-- What skipString does behind the opening delimiter of d quotes q ('esc': the byte before escapes this one): how many bytes it goes on, how many newlines it meets. -/
def scanE (q : UInt8) (d : Nat) : Bool → List UInt8 → Nat × Nat
  | _, [] => (0, 0)
  | true, x :: r => ((scanE q d false r).1 + 1, (scanE q d false r).2 + nl [x])
  | false, c :: r =>
    if c = 92 ∧ q = 34 then ((scanE q d true r).1 + 1, (scanE q d true r).2)
    else if c = 10 then ((scanE q d false r).1 + 1, (scanE q d false r).2 + 1)
    else if (List.replicate d q).isPrefixOf (c :: r) then (d + (if d = 3 then more q 2 ((c :: r).drop d) else 0), 0)
    else ((scanE q d false r).1 + 1, (scanE q d false r).2)
/-- The same, from a byte that nothing escapes. -/
def scan (q : UInt8) (d : Nat) (l : List UInt8) : Nat × Nat := scanE q d false l

theorem scan_nil (q : UInt8) (d : Nat) : scan q d [] = (0, 0) := by simp [scan, scanE]
theorem scan_esc (d : Nat) (x : UInt8) (r : List UInt8) : scan 34 d (92 :: x :: r) = ((scan 34 d r).1 + 2, (scan 34 d r).2 + nl [x]) := by simp [scan, scanE]
theorem scan_last (d : Nat) : scan 34 d [92] = (1, 0) := by simp [scan, scanE]
theorem scan_nl (q : UInt8) (d : Nat) (r : List UInt8) : scan q d (10 :: r) = ((scan q d r).1 + 1, (scan q d r).2 + 1) := by
  rw [scan, scanE]; simp [scan]
theorem scan_hit (q : UInt8) (d : Nat) (c : UInt8) (r : List UInt8) (h : ¬ (c = 92 ∧ q = 34)) (hn : c ≠ 10) (hp : (List.replicate d q).isPrefixOf (c :: r) = true) :
    scan q d (c :: r) = (d + (if d = 3 then more q 2 ((c :: r).drop d) else 0), 0) := by
  rw [scan, scanE, if_neg h, if_neg hn, if_pos hp]
theorem scan_step (q : UInt8) (d : Nat) (c : UInt8) (r : List UInt8) (h : ¬ (c = 92 ∧ q = 34)) (hn : c ≠ 10) (hp : (List.replicate d q).isPrefixOf (c :: r) = false) :
    scan q d (c :: r) = ((scan q d r).1 + 1, (scan q d r).2) := by
  rw [scan, scanE, if_neg h, if_neg hn, if_neg (by simp [hp])]
  rfl

/-! ### At places of a string. -/
theorem drop_at (s : ByteArray) (p : Nat) (h : p < s.size) : s.data.toList.drop p = s[p] :: s.data.toList.drop (p + 1) := by
  have h' : p < s.data.toList.length := by rw [← Lib.size_eq]; exact h
  rw [List.drop_eq_getElem_cons h']
  rfl
theorem drop_end (s : ByteArray) (p : Nat) (h : s.size ≤ p) : s.data.toList.drop p = [] := by
  apply List.drop_eq_nil_of_le
  rw [← Lib.size_eq]; exact h
/-- How many quotes the delimiter at p has. -/
def dOf (l : List UInt8) (q : UInt8) (p : Nat) : Nat := if (List.replicate 3 q).isPrefixOf (l.drop p) then 3 else 1

/-- The loop's relation: from st to p k newlines have been met, and the rest is the rest. -/
def Went (q : UInt8) (d : Nat) (l : List UInt8) (st p k : Nat) : Prop :=
  st ≤ p ∧ scan q d (l.drop st) = ((scan q d (l.drop p)).1 + (p - st), (scan q d (l.drop p)).2 + k)
theorem Went.start (q : UInt8) (d : Nat) (l : List UInt8) (st : Nat) : Went q d l st st 0 := ⟨Nat.le_refl _, by simp⟩
theorem Went.on {q : UInt8} {d : Nat} {l : List UInt8} {st p k p' n : Nat} (h : Went q d l st p k) (hp : p ≤ p')
    (hs : scan q d (l.drop p) = ((scan q d (l.drop p')).1 + (p' - p), (scan q d (l.drop p')).2 + n)) : Went q d l st p' (k + n) := by
  obtain ⟨h1, h2⟩ := h
  refine ⟨by omega, ?_⟩
  rw [h2, hs]
  ext <;> simp <;> omega
theorem Went.esc {q : UInt8} {d : Nat} {s : ByteArray} {st p k : Nat} (h : Went q d s.data.toList st p k) (hp : p + 1 < s.size) (hc : s[p] = 92) (hq : q = 34) :
    Went q d s.data.toList st (p + 2) (k + nl [s[p + 1]]) := by
  subst hq
  refine h.on (by omega) ?_
  rw [drop_at s p (by omega), drop_at s (p + 1) hp, hc, scan_esc]
  ext <;> simp
theorem Went.nl {q : UInt8} {d : Nat} {s : ByteArray} {st p k : Nat} (h : Went q d s.data.toList st p k) (hp : p < s.size) (hc : s[p] = 10) :
    Went q d s.data.toList st (p + 1) (k + 1) := by
  refine h.on (by omega) ?_
  rw [drop_at s p hp, hc, scan_nl]
  ext <;> simp
/-- The byte at p neither opens an escape, nor is a newline. -/
def Plainly (q : UInt8) (s : ByteArray) (p : Nat) : Prop := ∃ h : p < s.size, s[p] ≠ 10 ∧ (s[p] = 92 → q = 34 → s.size ≤ p + 1)
theorem Went.step {q : UInt8} {d : Nat} {s : ByteArray} {st p k : Nat} (h : Went q d s.data.toList st p k) (hp : Plainly q s p)
    (hc : (List.replicate d q).isPrefixOf (s.data.toList.drop p) = false) : Went q d s.data.toList st (p + 1) k := by
  obtain ⟨h1, h2, h3⟩ := hp
  refine h.on (n := 0) (by omega) ?_
  by_cases he : s[p] = 92 ∧ q = 34
  · have := h3 he.1 he.2
    rw [drop_at s p h1, drop_end s (p + 1) this, he.1, he.2, scan_last, scan_nil]
    simp
  · rw [drop_at s p h1] at hc ⊢
    rw [scan_step q d _ _ he h2 hc]
    simp
theorem Went.hit {q : UInt8} {d : Nat} {s : ByteArray} {st p k : Nat} (h : Went q d s.data.toList st p k) (hp : Plainly q s p) (hd : 0 < d)
    (hc : (List.replicate d q).isPrefixOf (s.data.toList.drop p) = true) :
    scan q d (s.data.toList.drop st) = (p - st + d + (if d = 3 then more q 2 (s.data.toList.drop (p + d)) else 0), k) := by
  obtain ⟨h1, h2, h3⟩ := hp
  rw [h.2]
  by_cases he : s[p] = 92 ∧ q = 34
  · exfalso
    rw [drop_at s p h1, he.1, he.2] at hc
    obtain ⟨m, rfl⟩ : ∃ m, d = m + 1 := ⟨d - 1, by omega⟩
    simp [List.replicate_succ] at hc
  · have e1 : s.data.toList.drop (p + d) = (s.data.toList.drop p).drop d := by rw [List.drop_drop]
    rw [e1]
    rw [drop_at s p h1] at hc ⊢
    rw [scan_hit q d _ _ he h2 hc]
    ext <;> simp
    omega
theorem Went.over {q : UInt8} {d : Nat} {s : ByteArray} {st p k : Nat} (h : Went q d s.data.toList st p k) (hp : s.size ≤ p) :
    scan q d (s.data.toList.drop st) = (p - st, k) := by
  rw [h.2, drop_end s p hp, scan_nil]
  simp
/-- The second loop's relation: n quotes more have been taken behind P. -/
def MoreIs (q : UInt8) (d : Nat) (l : List UInt8) (P n : Nat) : Prop :=
  (if d = 3 then more q 2 (l.drop P) else 0) = (if d = 3 then more q (2 - n) (l.drop (P + n)) else 0) + n
theorem MoreIs.start (q : UInt8) (d : Nat) (l : List UInt8) (P : Nat) : MoreIs q d l P 0 := by simp [MoreIs]
theorem MoreIs.on {q : UInt8} {d : Nat} {s : ByteArray} {P n : Nat} (h : MoreIs q d s.data.toList P n) (hd : d = 3) (hn : n < 2) (hP : P + n < s.size) (hc : s[P + n] = q) :
    MoreIs q d s.data.toList P (n + 1) := by
  unfold MoreIs at h ⊢
  rw [h]
  simp only [hd, if_true]
  obtain ⟨r, hr⟩ : ∃ r, 2 - n = r + 1 := ⟨1 - n, by omega⟩
  have hr' : 2 - (n + 1) = r := by omega
  rw [hr, hr', drop_at s (P + n) hP, hc]
  simp [more, Nat.add_assoc, Nat.add_comm 1 n]
theorem MoreIs.stop {q : UInt8} {d : Nat} {s : ByteArray} {P n : Nat} (h : MoreIs q d s.data.toList P n) (hx : d = 3 → n < 2 → ∀ hP : P + n < s.size, s[P + n] ≠ q) :
    (if d = 3 then more q 2 (s.data.toList.drop P) else 0) = n := by
  unfold MoreIs at h
  rw [h]
  by_cases hd : d = 3
  · simp only [hd, if_true]
    by_cases hn : n < 2
    · obtain ⟨r, hr⟩ : ∃ r, 2 - n = r + 1 := ⟨1 - n, by omega⟩
      rw [hr]
      by_cases hP : P + n < s.size
      · rw [drop_at s (P + n) hP]
        simp [more, hx hd hn hP]
      · rw [drop_end s (P + n) (by omega)]
        simp [more]
    · have : 2 - n = 0 := by omega
      rw [this]; simp [more]
  · simp [hd]
end Go.Proofs.Qxb6600908a
