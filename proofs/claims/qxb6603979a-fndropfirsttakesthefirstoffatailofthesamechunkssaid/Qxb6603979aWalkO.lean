/-
  dropFirst's law: the plain part, and ZZDropFirst over a built list.
-/
import Derived.Test.Qxb6603979aWalkN
namespace Go.Proofs.Qxb6603979a
open Go.ChangeShapes Go.WideShapes Go.ChangeAt Go.RowKit

/-- WHAT IS LEFT BEHIND ZZDropFirst. -/
structure Dropped (W : World) (G O N kk : Nat) (gs L : Nat → Nat) (Z : Nat → List Int) : Prop where
  row : W.rowIs G 42 N (fun r => if kk = 1 ∧ r = 0 then .slice none 0 0 else rowsTo gs L N r)
  orig : W.rowIs O 42 N (rowsTo gs L N)
  chunk : ∀ r, r < N → W.rowIs (gs r) 65 (L r * 2) (chunkTo (Z r) (L r))
theorem Dropped.later {w w' : World} {G O N kk : Nat} {gs L : Nat → Nat} {Z : Nat → List Int} (h : Dropped w G O N kk gs L Z) (hb : Below w.heap.size w w') : Dropped w' G O N kk gs L Z :=
  ⟨h.row.of_block (hb.block _ h.row.lt), h.orig.of_block (hb.block _ h.orig.lt), fun r hr => (h.chunk r hr).of_block (hb.block _ (h.chunk r hr).lt)⟩
theorem Dropped.start {w : World} {B G O N : Nat} {gs L : Nat → Nat} {Z : Nat → List Int} (h : Built w B G N gs L Z N) (ho : w.rowIs O 42 N (rowsTo gs L N)) : Dropped w G O N 0 gs L Z :=
  ⟨h.row.congr fun i _ => by rw [if_neg (by omega)], ho, h.chunk⟩
theorem Dropped.cut {w : World} {B G O N : Nat} {gs L : Nat → Nat} {Z : Nat → List Int} (h : Built w B G N gs L Z N) (ho : w.rowIs O 42 N (rowsTo gs L N)) (hO : O ≠ G) : Dropped (w.setCell ⟨G, 0, none⟩ (.slice none 0 0)) G O N 1 gs L Z := by
  refine ⟨(h.row.set 0 _).congr fun i _ => ?_, ho.setOther (a := ⟨G, 0, none⟩) hO _, fun r hr => (h.chunk r hr).setOther (a := ⟨G, 0, none⟩) (h.far r hr).2 _⟩
  show (if i = 0 then _ else _) = if 1 = 1 ∧ i = 0 then _ else _
  simp only [true_and]

/-- WHAT THE TAIL OF THE LAW LEANS ON: the list that is left. -/
structure Tail (N kk M f2 : Nat) (L : Nat → Nat) (Z : Nat → List Int) (f : Nat) (n size : Int) : Prop where
  sum : N = kk + M
  few : kk ≤ 1
  pos : 0 < M
  shaped : Shaped M (fun r => L (kk + r)) (f2 : Int) (n - 1) size
  front : f2 ≤ L kk
  live : liveTo (fun r => L (kk + r)) (fun r => Z (kk + r)) f2 M 0 = (liveTo L Z f N 0).drop 1

theorem sumL_shift (L : Nat → Nat) (M : Nat) : sumL L (1 + M) = L 0 + sumL (fun r => L (1 + r)) M := by
  induction M with
  | zero => simp [sumL]
  | succ M ih =>
    have e : 1 + (M + 1) = (1 + M) + 1 := by omega
    rw [e]
    simp only [sumL]
    omega
theorem flatTo_shift (L : Nat → Nat) (Z : Nat → List Int) (M : Nat) : flatTo L Z (1 + M) = (Z 0).take (L 0) ++ flatTo (fun r => L (1 + r)) (fun r => Z (1 + r)) M := by
  induction M with
  | zero => simp [flatTo]
  | succ M ih =>
    have e : 1 + (M + 1) = (1 + M) + 1 := by omega
    rw [e]
    simp only [flatTo]
    rw [ih, List.append_assoc]

theorem shaped_pos {N : Nat} {L : Nat → Nat} {f n size : Int} (h : Shaped N L f n size) (hn : 1 ≤ n) : 0 < N ∧ (∀ i, i + 1 < N → (L i : Int) = chunkS size) ∧ 1 ≤ L (N - 1) ∧ (L (N - 1) : Int) ≤ chunkS size ∧ 0 ≤ f ∧ f < (L 0 : Int) ∧ n = (sumL L N : Int) - f := by
  rcases h with h | h
  · omega
  · exact h.2
theorem shaped_each {N : Nat} {L : Nat → Nat} {f n size : Int} (h : Shaped N L f n size) (hn : 1 ≤ n) (r : Nat) (hr : r < N) : 0 < L r := by
  obtain ⟨h0, h1, h2, _⟩ := shaped_pos h hn
  have := chunkS_pos size
  by_cases e : r + 1 < N
  · have := h1 r e; omega
  · obtain rfl : r = N - 1 := by omega
    omega

theorem tailB {N f : Nat} {L : Nat → Nat} {Z : Nat → List Int} {n size : Int} (h : Shaped N L (f : Int) n size) (hn : 1 < n) (hne : ¬ (f : Int) + 1 = chunkS size) : Tail N 0 N (f + 1) L Z f n size := by
  obtain ⟨h0, h1, h2, h3, h4, h5, h6⟩ := shaped_pos h (by omega)
  have hf : f + 1 < L 0 := by
    by_cases e : 1 < N
    · have := h1 0 (by omega); omega
    · obtain rfl : N = 1 := by omega
      simp [sumL] at h6
      omega
  refine ⟨by omega, by omega, h0, ?_, by omega, ?_⟩
  · refine .inr ⟨by omega, h0, ?_⟩
    simp only [Nat.zero_add]
    have h6' : n = (sumL (fun r => L r) N : Int) - (f : Int) := h6
    exact ⟨h1, h2, h3, by omega, by omega, by omega⟩
  · simp only [Nat.zero_add, liveTo, List.drop_drop]
theorem tailA {N f : Nat} {L : Nat → Nat} {Z : Nat → List Int} {n size : Int} (h : Shaped N L (f : Int) n size) (hn : 1 < n) (he : (f : Int) + 1 = chunkS size) (hZ : ∀ r, r < N → L r ≤ (Z r).length) : Tail N 1 (N - 1) 0 L Z f n size := by
  obtain ⟨h0, h1, h2, h3, h4, h5, h6⟩ := shaped_pos h (by omega)
  have hN : 2 ≤ N := by
    by_cases e : 1 < N
    · omega
    · obtain rfl : N = 1 := by omega
      simp [sumL] at h6
      simp at h3
      omega
  have hL0 : L 0 = f + 1 := by have := h1 0 (by omega); omega
  have hs : sumL L N = L 0 + sumL (fun r => L (1 + r)) (N - 1) := by
    have := sumL_shift L (N - 1)
    rwa [show 1 + (N - 1) = N by omega] at this
  have hfl : flatTo L Z N = (Z 0).take (L 0) ++ flatTo (fun r => L (1 + r)) (fun r => Z (1 + r)) (N - 1) := by
    have := flatTo_shift L Z (N - 1)
    rwa [show 1 + (N - 1) = N by omega] at this
  have e1 : 1 + (N - 1 - 1) = N - 1 := by omega
  have hL1 : 0 < L 1 := shaped_each h (by omega) 1 (by omega)
  refine ⟨by omega, by omega, by omega, ?_, by omega, ?_⟩
  · refine .inr ⟨by omega, by omega, fun i hi => ?_, ?_, ?_, by omega, ?_, by omega⟩
    · exact h1 (1 + i) (by omega)
    · simp only [e1]; exact h2
    · simp only [e1]; exact h3
    · simp only [Nat.add_zero]; omega
  · have hZ0 := hZ 0 (by omega)
    have hlen : ((Z 0).take (L 0)).length = f + 1 := by simp; omega
    simp only [liveTo, List.take_zero, List.append_nil, List.drop_zero, List.drop_drop]
    rw [hfl, List.drop_append_of_le_length (by omega), List.drop_eq_nil_of_le (by omega)]
    rfl

theorem drop_any (B G O N f : Nat) (gs L : Nat → Nat) (Z : Nat → List Int) (n size : Int) (w : World) (hN1 : N ≤ 65536) (hf1 : f ≤ 131072) (hn : 1 < n) (hn1 : n ≤ 131072) (hsh : Shaped N L (f : Int) n size) (hZ : ∀ r, r < N → L r ≤ (Z r).length)
    (hbt : Built w B G N gs L Z N) (ho : w.rowIs O 42 N (rowsTo gs L N)) (hO : O ≠ G) (hBG : B ≤ G) :
    Calls Try.prog 25 #[.slice (some ⟨G, 0, none⟩) N N, .int .i64 (f : Int), .int .i64 n, .int .i64 size] w fun e w' =>
      ∃ kk M f2 : Nat, e = .returned (.tuple #[.slice (some ⟨G, kk, none⟩) M M, .int .i64 (f2 : Int), .int .i64 (n - 1), .int .i64 size]) ∧ Tail N kk M f2 L Z f n size ∧ Dropped w' G O N kk gs L Z ∧ Below B w w' := by
  by_cases he : (f : Int) + 1 = chunkS size
  · have ht := tailA hsh hn he hZ
    have hN := ht.sum
    have hM := ht.pos
    refine (dropA G N _ (f : Int) n size _ w (by omega) hN1 (by omega) (by omega) hn hn1 (show Hid (chunkS size = _) from rfl) (by simpa using he) (hbt.row.cell (by omega)) (hbt.row.frozen 0)).mono ?_
    rintro e w' ⟨rfl, hb⟩
    exact ⟨1, N - 1, 0, rfl, ht, (Dropped.cut hbt ho hO).later (by simpa [World.setCell] using hb), ((Below.refl B w).setCell (p := ⟨G, 0, none⟩) hBG _).trans (hb.mono (Nat.le_trans hBG (Nat.le_of_lt hbt.row.lt)))⟩
  · have ht := tailB (Z := Z) hsh hn he
    refine (dropB (some ⟨G, 0, none⟩) N N (f : Int) n size _ w (by omega) (by omega) hn hn1 (show Hid (chunkS size = _) from rfl) (by simpa using he)).mono ?_
    rintro e w' ⟨rfl, hb⟩
    refine ⟨0, N, f + 1, ?_, ht, (Dropped.start hbt ho).later hb, hb.mono (Nat.le_trans hBG (Nat.le_of_lt hbt.row.lt))⟩
    go_num
end Go.Proofs.Qxb6603979a
