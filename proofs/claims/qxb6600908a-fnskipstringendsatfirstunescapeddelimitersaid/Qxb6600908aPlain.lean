/-
  THE PLAIN LAWS behind the two statements: no Go in this text.
-/
import Derived.Test.Qxb6600908aSkip
namespace Go.Proofs.Qxb6600908a
open Go

/-! ### Newlines between two places. -/
def nlIn (l : List UInt8) (i j : Nat) : Nat := nl ((l.drop i).take (j - i))
theorem nl_le : ∀ l : List UInt8, nl l ≤ l.length
  | [] => by simp [nl]
  | c :: r => by have := nl_le r; simp only [nl, List.length_cons]; split <;> omega
theorem nlIn_le (l : List UInt8) (i j : Nat) : nlIn l i j ≤ j - i := Nat.le_trans (nl_le _) (by simp [List.length_take]; omega)
theorem nlIn_self (l : List UInt8) (i : Nat) : nlIn l i i = 0 := by simp [nlIn, nl]
theorem nlIn_succ (s : ByteArray) (i p : Nat) (hi : i ≤ p) (hp : p < s.size) : nlIn s.data.toList i (p + 1) = nlIn s.data.toList i p + nl [s[p]] := by
  unfold nlIn
  have h1 : p + 1 - i = (p - i) + 1 := by omega
  have h2 : (s.data.toList.drop i).drop (p - i) = s[p] :: s.data.toList.drop (p + 1) := by
    rw [List.drop_drop, show i + (p - i) = p by omega, drop_at s p hp]
  have h3 : (s.data.toList.drop i).take (p - i + 1) = (s.data.toList.drop i).take (p - i) ++ [s[p]] := by
    rw [List.take_add, h2]; simp
  rw [h1, h3, nl_append]
theorem nlIn_add (l : List UInt8) (i j k : Nat) (h1 : i ≤ j) (h2 : j ≤ k) : nlIn l i k = nlIn l i j + nlIn l j k := by
  unfold nlIn
  rw [show k - i = (j - i) + (k - j) by omega, List.take_add, nl_append, List.drop_drop, show i + (j - i) = j by omega]
theorem nlIn_all (l : List UInt8) : nlIn l 0 l.length = nl l := by simp [nlIn]
theorem nl_replicate (q : UInt8) (hq : q ≠ 10) : ∀ n, nl (List.replicate n q) = 0
  | 0 => rfl
  | n + 1 => by simp [List.replicate_succ, nl, hq, nl_replicate q hq n]
/-- No newline among quotes. -/
theorem nlIn_quotes {q : UInt8} (hq : q ≠ 10) {l : List UInt8} {i n : Nat} (h : (List.replicate n q).isPrefixOf (l.drop i) = true) : nlIn l i (i + n) = 0 := by
  rw [List.isPrefixOf_iff_prefix] at h
  obtain ⟨r, hr⟩ := h
  unfold nlIn
  rw [← hr, Nat.add_sub_cancel_left, List.take_left' (by simp), nl_replicate q hq]
theorem more_nl {q : UInt8} (hq : q ≠ 10) : ∀ (n : Nat) (l : List UInt8), nl (l.take (more q n l)) = 0
  | 0, _ => by simp [more, nl]
  | _ + 1, [] => by simp [more, nl]
  | n + 1, c :: r => by
    simp only [more]
    split
    · rename_i h
      simp [nl, h, hq, more_nl hq n r]
    · simp [nl]
theorem nlIn_more {q : UInt8} (hq : q ≠ 10) (l : List UInt8) (P n : Nat) : nlIn l P (P + more q n (l.drop P)) = 0 := by
  unfold nlIn
  rw [Nat.add_sub_cancel_left]
  exact more_nl hq _ _
theorem more_le (q : UInt8) : ∀ (n : Nat) (l : List UInt8), more q n l ≤ n ∧ more q n l ≤ l.length
  | 0, _ => by simp [more]
  | _ + 1, [] => by simp [more]
  | n + 1, c :: r => by
    have := more_le q n r
    simp only [more]
    split <;> simp <;> omega

/-! ### The run of backslashes. -/
/-- How many backslashes stand just before j, not before st. -/
def bsl (s : ByteArray) (st : Nat) : Nat → Nat
  | 0 => 0
  | j + 1 => if st ≤ j ∧ (∃ h : j < s.size, s[j] = 92) then bsl s st j + 1 else 0
theorem bsl_le (s : ByteArray) (st : Nat) : ∀ j, bsl s st j ≤ j
  | 0 => Nat.le_refl _
  | j + 1 => by
    have := bsl_le s st j
    simp only [bsl]; split <;> omega
theorem bsl_one (s : ByteArray) (st j : Nat) (h1 : st ≤ j) (h2 : j < s.size) (h3 : s[j] = 92) : bsl s st (j + 1) = bsl s st j + 1 := by
  rw [bsl, if_pos ⟨h1, h2, h3⟩]
theorem bsl_zero (s : ByteArray) (st j : Nat) (h : st ≤ j → ∀ h : j < s.size, s[j] ≠ 92) : bsl s st (j + 1) = 0 := by
  rw [bsl, if_neg (fun ⟨h1, h2, h3⟩ => h h1 h2 h3)]
theorem bsl_start (s : ByteArray) (st : Nat) : bsl s st st = 0 := by
  cases st with
  | zero => rfl
  | succ n => rw [bsl, if_neg (fun h => by have := h.1; omega)]
/-- Is the byte at i escaped? -/
def escd (q : UInt8) (s : ByteArray) (st i : Nat) : Bool := decide (q = 34 ∧ bsl s st i % 2 = 1)

/-- The law's loop's relation. -/
def Scanned (q : UInt8) (d : Nat) (s : ByteArray) (st i : Nat) : Prop :=
  st ≤ i ∧ scan q d (s.data.toList.drop st) = ((scanE q d (escd q s st i) (s.data.toList.drop i)).1 + (i - st), (scanE q d (escd q s st i) (s.data.toList.drop i)).2 + nlIn s.data.toList st i)
theorem Scanned.start (q : UInt8) (d : Nat) (s : ByteArray) (st : Nat) : Scanned q d s st st := by
  refine ⟨Nat.le_refl _, ?_⟩
  have : escd q s st st = false := by unfold escd; rw [bsl_start]; simp
  rw [this, nlIn_self]
  simp [scan]
theorem Scanned.on {q : UInt8} {d : Nat} {s : ByteArray} {st i : Nat} (h : Scanned q d s st i) (hi : i < s.size)
    (hn : (List.replicate d q).isPrefixOf (s.data.toList.drop i) = false ∨ escd q s st i = true) : Scanned q d s st (i + 1) := by
  obtain ⟨h1, h2⟩ := h
  refine ⟨by omega, ?_⟩
  rw [h2, nlIn_succ s st i h1 hi, drop_at s i hi]
  by_cases he : escd q s st i = true
  · have ht := he
    unfold escd at ht
    obtain ⟨hq, ho⟩ := of_decide_eq_true ht
    have hf : escd q s st (i + 1) = false := by
      unfold escd
      apply decide_eq_false
      rintro ⟨_, h⟩
      by_cases hc : s[i] = 92
      · rw [bsl_one s st i h1 hi hc] at h; omega
      · rw [bsl_zero s st i (fun _ _ => hc)] at h; omega
    rw [he, hf]
    ext <;> simp [scanE] <;> omega
  · have he' : escd q s st i = false := by simpa using he
    rw [he']
    have hn' : (List.replicate d q).isPrefixOf (s[i] :: s.data.toList.drop (i + 1)) = false := by
      rcases hn with h | h
      · rw [drop_at s i hi] at h; exact h
      · exact absurd h he
    by_cases hc : s[i] = 92 ∧ q = 34
    · have ht : escd q s st (i + 1) = true := by
        unfold escd at he' ⊢
        apply decide_eq_true
        refine ⟨hc.2, ?_⟩
        have := of_decide_eq_false he'
        rw [bsl_one s st i h1 hi hc.1]
        have : ¬ bsl s st i % 2 = 1 := fun h => this ⟨hc.2, h⟩
        omega
      rw [ht, scanE, if_pos hc]
      have : nl [s[i]] = 0 := by rw [hc.1]; rfl
      rw [this]
      ext <;> simp <;> omega
    · have hf : escd q s st (i + 1) = false := by
        unfold escd
        apply decide_eq_false
        rintro ⟨hq, h⟩
        rw [bsl_zero s st i (fun _ _ h => hc ⟨h, hq⟩)] at h
        omega
      rw [hf, scanE, if_neg hc]
      by_cases hnl : s[i] = 10
      · have : nl [s[i]] = 1 := by rw [hnl]; rfl
        rw [if_pos hnl, this]
        ext <;> simp <;> omega
      · have : nl [s[i]] = 0 := by simp [nl, hnl]
        rw [if_neg hnl, if_neg (by simp [hn']), this]
        ext <;> simp <;> omega
/-- Where the law's loop ends: the delimiter is at i. -/
theorem Scanned.hit {q : UInt8} {d : Nat} {s : ByteArray} {st i : Nat} (h : Scanned q d s st i) (hi : i < s.size) (hd : 0 < d) (hq : q = 34 ∨ q = 39)
    (hp : (List.replicate d q).isPrefixOf (s.data.toList.drop i) = true) (he : escd q s st i = false) :
    scan q d (s.data.toList.drop st) = (d + (if d = 3 then more q 2 (s.data.toList.drop (i + d)) else 0) + (i - st), nlIn s.data.toList st i) := by
  obtain ⟨h1, h2⟩ := h
  have e1 : s.data.toList.drop (i + d) = (s.data.toList.drop i).drop d := by rw [List.drop_drop]
  rw [h2, he, e1]
  rw [drop_at s i hi] at hp ⊢
  have hc : s[i] = q := by
    obtain ⟨m, rfl⟩ : ∃ m, d = m + 1 := ⟨d - 1, by omega⟩
    simp [List.replicate_succ] at hp
    exact hp.1.symm
  have h92 : ¬ (s[i] = 92 ∧ q = 34) := by
    rintro ⟨h, _⟩
    rw [hc] at h
    rcases hq with h' | h' <;> rw [h'] at h <;> exact absurd h (by decide)
  have h10 : s[i] ≠ 10 := by
    rw [hc]
    rcases hq with h' | h' <;> rw [h'] <;> decide
  have := scan_hit q d _ _ h92 h10 hp
  unfold scan at this
  rw [this]
  simp
theorem Scanned.over {q : UInt8} {d : Nat} {s : ByteArray} {st i : Nat} (h : Scanned q d s st i) (hi : s.size ≤ i) :
    scan q d (s.data.toList.drop st) = (i - st, nlIn s.data.toList st i) := by
  rw [h.2, drop_end s i hi]
  cases escd q s st i <;> simp [scanE]

/-! ### The encoded body. -/
/-- The body as the law encodes it in a basic string. -/
def enc : List UInt8 → List UInt8
  | [] => []
  | c :: r => if c = 92 ∨ c = 34 then 92 :: c :: enc r else c :: enc r
theorem enc_append : ∀ a b : List UInt8, enc (a ++ b) = enc a ++ enc b
  | [], b => rfl
  | c :: a, b => by
    simp only [List.cons_append, enc, enc_append a b]
    split <;> simp
theorem enc_len : ∀ l : List UInt8, (enc l).length ≤ 2 * l.length
  | [] => by simp [enc]
  | c :: r => by
    have := enc_len r
    simp only [enc]
    split <;> simp <;> omega
theorem pre_ne {q c : UInt8} {a l : List UInt8} (h : c ≠ q) : (q :: a).isPrefixOf (c :: l) = false := by
  simp [List.isPrefixOf, beq_false_of_ne (Ne.symm h)]
theorem pre_eq {q : UInt8} {a l : List UInt8} : (q :: a).isPrefixOf (q :: l) = a.isPrefixOf l := by
  simp [List.isPrefixOf]
theorem scan_basic (suf : List UInt8) : ∀ body : List UInt8, scan 34 1 (enc body ++ 34 :: suf) = ((enc body).length + 1, nl body)
  | [] => by
    simp only [enc, List.nil_append]
    rw [scan_hit 34 1 34 suf (by decide) (by decide) (by simp)]
    simp [nl]
  | c :: r => by
    have ih := scan_basic suf r
    by_cases h : c = 92 ∨ c = 34
    · rw [enc, if_pos h, List.cons_append, List.cons_append, scan_esc, ih]
      have : nl [c] = 0 := by rcases h with h | h <;> rw [h] <;> rfl
      have h10 : c ≠ 10 := by rcases h with h | h <;> rw [h] <;> decide
      simp [nl, h10]
    · rw [enc, if_neg h, List.cons_append]
      have h1 : c ≠ 92 := fun h' => h (.inl h')
      have h2 : c ≠ 34 := fun h' => h (.inr h')
      by_cases h10 : c = 10
      · rw [h10, scan_nl, ih]
        simp [nl, Nat.add_comm]
      · rw [scan_step 34 1 c _ (fun h => h1 h.1) h10 (pre_ne h2), ih]
        simp [nl, h10]
theorem scan_literal (suf : List UInt8) : ∀ body : List UInt8, 39 ∉ body → scan 39 1 (body ++ 39 :: suf) = (body.length + 1, nl body)
  | [], _ => by
    rw [List.nil_append, scan_hit 39 1 39 suf (by decide) (by decide) (by simp)]
    simp [nl]
  | c :: r, hb => by
    have h39 : c ≠ 39 := fun h => hb (by simp [h])
    have ih := scan_literal suf r (fun h => hb (by simp [h]))
    rw [List.cons_append]
    by_cases h10 : c = 10
    · rw [h10, scan_nl, ih]
      simp [nl, Nat.add_comm]
    · rw [scan_step 39 1 c _ (fun h => by exact absurd h.2 (by decide)) h10 (pre_ne h39), ih]
      simp [nl, h10]
/-- The string as the law lays it: E: the encoded body. -/
def Encoded (basic : Bool) (q : UInt8) (body E : List UInt8) : Prop :=
  (basic = true → q = 34 ∧ E = enc body) ∧ (basic = false → q = 39 ∧ E = body ∧ 39 ∉ body)
theorem Encoded.one {basic : Bool} {q : UInt8} {body E pre suf : List UInt8} (h : Encoded basic q body E) (hs : body = [] → ∀ r, suf ≠ q :: r) :
    dOf (pre ++ q :: (E ++ q :: suf)) q pre.length = 1 := by
  unfold dOf
  rw [List.drop_left, if_neg]
  simp only [Bool.not_eq_true]
  show (q :: q :: [q]).isPrefixOf _ = false
  have key : ∀ c r, E = c :: r → c ≠ q := by
    intro c r hE
    cases basic with
    | true =>
      obtain ⟨rfl, rfl⟩ := h.1 rfl
      cases body with
      | nil => simp [enc] at hE
      | cons x y =>
        by_cases hx : x = 92 ∨ x = 34
        · rw [enc, if_pos hx] at hE
          injection hE with h1 h2
          rw [← h1]; decide
        · rw [enc, if_neg hx] at hE
          injection hE with h1 h2
          rw [← h1]; exact fun h => hx (.inr h)
    | false =>
      obtain ⟨rfl, rfl, hn⟩ := h.2 rfl
      rw [hE] at hn
      exact fun h => hn (by simp [h])
  cases hE : E with
  | cons c r =>
    rw [pre_eq, List.cons_append]
    exact pre_ne (key c r hE)
  | nil =>
    have hb : body = [] := by
      cases basic with
      | true =>
        obtain ⟨rfl, rfl⟩ := h.1 rfl
        cases body with
        | nil => rfl
        | cons x y => simp only [enc] at hE; split at hE <;> simp at hE
      | false =>
        obtain ⟨rfl, rfl, hn⟩ := h.2 rfl
        exact hE
    cases suf with
    | nil => rw [pre_eq, List.nil_append, pre_eq]; rfl
    | cons c r =>
      have : c ≠ q := fun h => hs hb r (by rw [h])
      rw [pre_eq, List.nil_append, pre_eq]
      exact pre_ne this
theorem Encoded.scan {basic : Bool} {q : UInt8} {body E suf : List UInt8} (h : Encoded basic q body E) : scan q 1 (E ++ q :: suf) = (E.length + 1, nl body) := by
  cases basic with
  | true => obtain ⟨rfl, rfl⟩ := h.1 rfl; exact scan_basic suf body
  | false => obtain ⟨rfl, rfl, hn⟩ := h.2 rfl; exact scan_literal suf _ hn
end Go.Proofs.Qxb6600908a
