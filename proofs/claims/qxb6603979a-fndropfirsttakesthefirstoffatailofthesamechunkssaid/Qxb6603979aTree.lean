/-
  THE PLAIN LAW OF firstAbove: a complete binary tree in heap order, no Go in sight.
-/
import Derived.Laws.BitsAllLaws
import Derived.Laws.BitsLemmas
namespace Go.Proofs.Qxb6603979a.Tree
open Go

theorem i64_and_nat (a b : Nat) (ha : a < 9223372036854775808) (hb : b < 9223372036854775808) : bits .and .i64 (a : Int) (b : Int) = ((a &&& b : Nat) : Int) := by
  have hx : a &&& b < 2 ^ 63 := Nat.and_lt_two_pow _ (by omega)
  show IntKind.i64.wrap ((BitVec.ofInt 64 (a : Int) &&& BitVec.ofInt 64 (b : Int)).toNat : Int) = _
  rw [BitVec.toNat_and, ofInt_u64 a (by omega), ofInt_u64 b (by omega), IntKind.wrap_i64]
  omega
theorem i64_and_one (a : Nat) (ha : a < 9223372036854775808) : bits .and .i64 (a : Int) 1 = ((a % 2 : Nat) : Int) := by
  have := i64_and_nat a 1 ha (by omega)
  rw [nat_mask1] at this
  exact this

theorem pow_of_and (n : Nat) : 0 < n → n &&& (n - 1) = 0 → ∃ h, n = 2 ^ h := by
  induction n using Nat.strongRecOn with
  | _ n ih =>
    intro hn h
    by_cases h1 : n = 1
    · exact ⟨0, by omega⟩
    have hd : (n &&& (n - 1)) / 2 = n / 2 &&& (n - 1) / 2 := by rw [Nat.and_div_two]
    rw [h] at hd
    by_cases he : n % 2 = 0
    · have e : (n - 1) / 2 = n / 2 - 1 := by omega
      rw [e] at hd
      obtain ⟨m, hm⟩ := ih (n / 2) (by omega) (by omega) (by omega)
      exact ⟨m + 1, by rw [Nat.pow_succ]; omega⟩
    · have e : (n - 1) / 2 = n / 2 := by omega
      rw [e, Nat.and_self] at hd
      omega

/-- THE SHAPE: w leaves, w a power of two, every inner node the greater of its children. -/
structure Shape (t : Nat → Int) (h : Nat) : Prop where
  inner : ∀ j, 1 ≤ j → j < 2 ^ h → t j = max (t (2 * j)) (t (2 * j + 1))

/-- Node j stands at depth d, height k. -/
structure Node (h d k j : Nat) : Prop where
  hd : d + k = h
  lo : 2 ^ d ≤ j
  hi : j < 2 ^ (d + 1)

theorem pow_mul {a b c : Nat} (h : a + b = c) : 2 ^ a * 2 ^ b = 2 ^ c := by rw [← h, Nat.pow_add]

theorem Node.pos {h d k j : Nat} (n : Node h d k j) : 1 ≤ j := Nat.le_trans (Nat.pow_pos (by omega)) n.lo
theorem Node.start_lo {h d k j : Nat} (n : Node h d k j) : 2 ^ h ≤ j * 2 ^ k := by
  rw [← pow_mul n.hd]; exact Nat.mul_le_mul_right _ n.lo
theorem Node.end_hi {h d k j : Nat} (n : Node h d k j) : (j + 1) * 2 ^ k ≤ 2 * 2 ^ h := by
  have e : 2 ^ (d + 1) * 2 ^ k = 2 ^ (h + 1) := pow_mul (by have := n.hd; omega)
  have : (j + 1) * 2 ^ k ≤ 2 ^ (d + 1) * 2 ^ k := Nat.mul_le_mul_right _ n.hi
  rw [e, Nat.pow_succ] at this
  omega
theorem Node.left {h d k j : Nat} (n : Node h d (k + 1) j) : Node h (d + 1) k (2 * j) :=
  ⟨by have := n.hd; omega, by have := n.lo; rw [Nat.pow_succ]; omega, by have := n.hi; rw [Nat.pow_succ]; omega⟩
theorem Node.right {h d k j : Nat} (n : Node h d (k + 1) j) : Node h (d + 1) k (2 * j + 1) :=
  ⟨by have := n.hd; omega, by have := n.lo; rw [Nat.pow_succ]; omega, by have := n.hi; rw [Nat.pow_succ]; omega⟩
theorem Node.inner {h d k j : Nat} (n : Node h d (k + 1) j) : j < 2 ^ h :=
  Nat.lt_of_lt_of_le n.hi (Nat.pow_le_pow_right (by omega) (by have := n.hd; omega))
theorem Node.leaf {h d j : Nat} (n : Node h d 0 j) : 2 ^ h ≤ j ∧ j < 2 * 2 ^ h := by
  obtain ⟨a, b, c⟩ := n
  obtain rfl : d = h := by omega
  rw [Nat.pow_succ] at c
  omega
theorem Node.up {h d k j : Nat} (n : Node h (d + 1) k j) : Node h d (k + 1) (j / 2) :=
  ⟨by have := n.hd; omega, by have := n.lo; rw [Nat.pow_succ] at this; omega, by have := n.hi; rw [Nat.pow_succ] at this; omega⟩

theorem sub_le {t : Nat → Int} {h : Nat} (s : Shape t h) (r : Int) : ∀ k d j, Node h d k j → t j ≤ r → ∀ l, j * 2 ^ k ≤ l → l < (j + 1) * 2 ^ k → t l ≤ r := by
  intro k
  induction k with
  | zero => intro d j n ht l h1 h2; obtain rfl : l = j := by simp at h1 h2; omega
            exact ht
  | succ k ih =>
    intro d j n ht l h1 h2
    have hm := s.inner j n.pos n.inner
    have e1 : j * 2 ^ (k + 1) = 2 * j * 2 ^ k := by rw [Nat.pow_succ, Nat.mul_comm (2 ^ k) 2, ← Nat.mul_assoc, Nat.mul_comm j 2]
    have e2 : (j + 1) * 2 ^ (k + 1) = (2 * j + 1 + 1) * 2 ^ k := by
      rw [Nat.pow_succ, Nat.mul_comm (2 ^ k) 2, ← Nat.mul_assoc]; congr 1; omega
    rw [e1] at h1
    rw [e2] at h2
    by_cases hl : l < (2 * j + 1) * 2 ^ k
    · exact ih _ _ n.left (by omega) l h1 hl
    · exact ih _ _ n.right (by omega) l (by omega) h2

/-- Where node j's leaves begin. -/
def start (h j : Nat) : Nat := j * 2 ^ (h - Nat.log2 j)
theorem Node.start {h d k j : Nat} (n : Node h d k j) : start h j = j * 2 ^ k := by
  have : Nat.log2 j = d := (Nat.log2_eq_iff (by have := n.pos; omega)).2 ⟨n.lo, n.hi⟩
  unfold Tree.start
  rw [this]
  congr 2
  have := n.hd
  omega

/-- All leaves from place f on, up to leaf number F, are at most r. -/
def Clear (t : Nat → Int) (w f : Nat) (r : Int) (F : Nat) : Prop := w + f ≤ F ∧ ∀ l, w + f ≤ l → l < F → t l ≤ r

def P1 (t : Nat → Int) (h f : Nat) (r : Int) (j : Nat) : Prop := ∃ d k, Node h d k j ∧ Clear t (2 ^ h) f r (j * 2 ^ k)
def P2 (t : Nat → Int) (h f : Nat) (r : Int) (S j : Nat) : Prop := ∃ F, Clear t (2 ^ h) f r F ∧ S < F ∧ ((j = 0 ∧ F = 2 * 2 ^ h) ∨ ∃ d k, Node h d k j ∧ F = (j + 1) * 2 ^ k)

theorem p1_init (t : Nat → Int) (h f : Nat) (r : Int) (hf : f < 2 ^ h) : P1 t h f r (2 ^ h + f) :=
  ⟨h, 0, ⟨rfl, by omega, by rw [Nat.pow_succ]; omega⟩, by simp, fun l h1 h2 => by simp at h2; omega⟩
theorem p1_bound {t : Nat → Int} {h f : Nat} {r : Int} {j : Nat} (p : P1 t h f r j) : 1 ≤ j ∧ j < 2 * 2 ^ h ∧ start h j < 2 * 2 ^ h := by
  obtain ⟨d, k, n, _⟩ := p
  have e := n.end_hi
  have hp : 0 < 2 ^ k := Nat.pow_pos (by omega)
  have hs := n.start
  have hj : j + 1 ≤ (j + 1) * 2 ^ k := Nat.le_mul_of_pos_right _ hp
  have hlt : j * 2 ^ k < (j + 1) * 2 ^ k := Nat.mul_lt_mul_of_pos_right (by omega) hp
  exact ⟨n.pos, by omega, by omega⟩
theorem p1_p2 {t : Nat → Int} {h f : Nat} {r : Int} {j : Nat} (s : Shape t h) (p : P1 t h f r j) (ht : t j ≤ r) : P2 t h f r (start h j) j := by
  obtain ⟨d, k, n, c1, c2⟩ := p
  have hp : 0 < 2 ^ k := Nat.pow_pos (by omega)
  have hlt : j * 2 ^ k < (j + 1) * 2 ^ k := Nat.mul_lt_mul_of_pos_right (by omega) hp
  refine ⟨(j + 1) * 2 ^ k, ⟨by omega, fun l h1 h2 => ?_⟩, by rw [n.start]; exact hlt, .inr ⟨d, k, n, rfl⟩⟩
  by_cases hl : l < j * 2 ^ k
  · exact c2 l h1 hl
  · exact sub_le s r k d j n ht l (by omega) h2
theorem p2_bound {t : Nat → Int} {h f : Nat} {r : Int} {S j : Nat} (p : P2 t h f r S j) : j < 2 * 2 ^ h := by
  obtain ⟨F, c, hS, ⟨rfl, _⟩ | ⟨d, k, n, _⟩⟩ := p
  · have : 0 < 2 ^ h := Nat.pow_pos (by omega)
    omega
  · have e := n.end_hi
    have hj : j + 1 ≤ (j + 1) * 2 ^ k := Nat.le_mul_of_pos_right _ (Nat.pow_pos (by omega))
    omega
theorem p2_up {t : Nat → Int} {h f : Nat} {r : Int} {S j : Nat} (p : P2 t h f r S j) (ho : j % 2 = 1) : P2 t h f r S (j / 2) := by
  obtain ⟨F, c, hS, ⟨rfl, _⟩ | ⟨d, k, n, hF⟩⟩ := p
  · simp at ho
  · refine ⟨F, c, hS, ?_⟩
    match d, n with
    | 0, n =>
      left
      have h1 := n.lo
      have h2 := n.hi
      simp at h1 h2
      obtain rfl : j = 1 := by omega
      have h3 := n.hd
      simp at h3
      subst h3
      exact ⟨rfl, by omega⟩
    | d + 1, n =>
      right
      refine ⟨d, k + 1, n.up, ?_⟩
      rw [hF, Nat.pow_succ, Nat.mul_comm (2 ^ k) 2, ← Nat.mul_assoc]
      congr 1
      omega
theorem p2_zero {t : Nat → Int} {h f : Nat} {r : Int} {S : Nat} (p : P2 t h f r S 0) : ∀ i, f ≤ i → i < 2 ^ h → t (2 ^ h + i) ≤ r := by
  obtain ⟨F, c, hS, ⟨_, hF⟩ | ⟨d, k, n, hF⟩⟩ := p
  · exact fun i h1 h2 => c.2 _ (by omega) (by omega)
  · have := n.pos; omega
theorem p2_next {t : Nat → Int} {h f : Nat} {r : Int} {S j : Nat} (p : P2 t h f r S j) (he : j % 2 = 0) (h0 : j ≠ 0) : P1 t h f r (j + 1) ∧ S < start h (j + 1) := by
  obtain ⟨F, c, hS, ⟨hz, _⟩ | ⟨d, k, n, hF⟩⟩ := p
  · exact absurd hz h0
  · have n' : Node h d k (j + 1) := ⟨n.hd, by have := n.lo; omega, by have := n.hi; rw [Nat.pow_succ] at this ⊢; omega⟩
    exact ⟨⟨d, k, n', hF ▸ c⟩, by rw [n'.start, ← hF]; exact hS⟩

theorem p3_left {t : Nat → Int} {h f : Nat} {r : Int} {j : Nat} (p : P1 t h f r j) (hj : j < 2 ^ h) : P1 t h f r (2 * j) := by
  obtain ⟨d, k, n, c⟩ := p
  match k, n, c with
  | 0, n, c => have := n.leaf; omega
  | k + 1, n, c =>
    refine ⟨d + 1, k, n.left, ?_⟩
    have e1 : j * 2 ^ (k + 1) = 2 * j * 2 ^ k := by rw [Nat.pow_succ, Nat.mul_comm (2 ^ k) 2, ← Nat.mul_assoc, Nat.mul_comm j 2]
    rw [← e1]
    exact c
theorem p3_right {t : Nat → Int} {h f : Nat} {r : Int} {j : Nat} (s : Shape t h) (p : P1 t h f r j) (hj : j < 2 ^ h) (ht : t (2 * j) ≤ r) : P1 t h f r (2 * j + 1) := by
  obtain ⟨d, k, n, c⟩ := p
  match k, n, c with
  | 0, n, c => have := n.leaf; omega
  | k + 1, n, c =>
    refine ⟨d + 1, k, n.right, ?_⟩
    have e1 : j * 2 ^ (k + 1) = 2 * j * 2 ^ k := by rw [Nat.pow_succ, Nat.mul_comm (2 ^ k) 2, ← Nat.mul_assoc, Nat.mul_comm j 2]
    rw [e1] at c
    have hp : 0 < 2 ^ k := Nat.pow_pos (by omega)
    have hlt : 2 * j * 2 ^ k < (2 * j + 1) * 2 ^ k := Nat.mul_lt_mul_of_pos_right (by omega) hp
    refine ⟨by have := c.1; omega, fun l h1 h2 => ?_⟩
    by_cases hl : l < 2 * j * 2 ^ k
    · exact c.2 l h1 hl
    · exact sub_le s r k _ _ n.left ht l (by omega) h2

/-- WHAT firstAbove FINDS among the leaves: the first from place f on above r; -1 for none. -/
def Found (t : Nat → Int) (w f : Nat) (r a : Int) : Prop :=
  (a = -1 ∧ ∀ i, f ≤ i → i < w → t (w + i) ≤ r) ∨ ∃ i : Nat, a = (i : Int) ∧ f ≤ i ∧ i < w ∧ r < t (w + i) ∧ ∀ l, f ≤ l → l < i → t (w + l) ≤ r
theorem p3_done {t : Nat → Int} {h f : Nat} {r : Int} {j : Nat} (p : P1 t h f r j) (ht : r < t j) (hj : 2 ^ h ≤ j) : Found t (2 ^ h) f r ((j : Int) - ((2 ^ h : Nat) : Int)) := by
  obtain ⟨d, k, n, c⟩ := p
  match k, n, c with
  | 0, n, c =>
    have hl := n.leaf
    rw [Nat.pow_zero, Nat.mul_one] at c
    have e : 2 ^ h + (j - 2 ^ h) = j := by omega
    refine .inr ⟨j - 2 ^ h, by omega, by have := c.1; omega, by omega, by rw [e]; exact ht, fun l h1 h2 => c.2 _ (by omega) (by omega)⟩
  | k + 1, n, c => have := n.inner; omega
end Go.Proofs.Qxb6603979a.Tree
