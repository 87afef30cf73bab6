/-
  THE WALKS: toStore, URIs.
-/
import Derived.Test.Qxb6605154aWalkA
namespace Go.Proofs.Qxb6605154a
open Go.ChangeShapes Go.WideShapes Go.ChangeAt Go.RowKit

theorem Try.info33 : (Try.prog.info? 33).map (fun i => (i.zero, i.size, i.bytes)) = some (some (.agg #[.string ⟨#[]⟩, .string ⟨#[]⟩]), 2, 32) := by kernel_rfl
theorem Try.info9 : (Try.prog.info? 9).map (fun i => (i.zero, i.size, i.bytes)) = some (some (.string ⟨#[]⟩), 1, 16) := by kernel_rfl

theorem run_make33 (n : Nat) (hn : n ≤ 131072) (w : World) :
    (Instr.makeSlice 26 (.int .i64 (n : Int)) (.int .i64 (n : Int))).run Try.prog w = .ok (.slice (some ⟨w.heap.size, 0, none⟩) n n) (w.alloc (.cells (madeCells #[.string ⟨#[]⟩, .string ⟨#[]⟩] (n * 2)) 33)) := by
  obtain ⟨i, hi, hz, hs, hb⟩ := info_parts Try.info33
  have hr := run_make (P := Try.prog) w 26 33 i _ Try.underlying26 hi hz .i64 .i64 n n (by omega) (Int.le_refl _) (by rw [hb]; omega) (by omega)
  simp only [Int.toNat_natCast, hs] at hr
  exact hr

/-- The row of pairs, filled up to k. -/
def pairTo (I U : Nat → ByteArray) (k : Nat) : Nat → Value := fun c => if c / 2 < k then (if c % 2 = 0 then .string (I (c / 2)) else .string (U (c / 2))) else .string ⟨#[]⟩
theorem pair_made (w : World) (n : Nat) (I U : Nat → ByteArray) : (w.alloc (.cells (madeCells #[.string ⟨#[]⟩, .string ⟨#[]⟩] (n * 2)) 33)).rowIs w.heap.size 33 (n * 2) (pairTo I U 0) := by
  have h := World.rowIs_alloc w (madeCells #[.string ⟨#[]⟩, .string ⟨#[]⟩] (n * 2)) 33 (pairTo I U 0) (fun i hi => by
    rw [size_madeCells] at hi
    unfold pairTo
    rw [if_neg (by omega)]
    by_cases h2 : i % 2 = 0
    · simp [madeCells, hi, h2]
    · have : i % 2 = 1 := by omega
      simp [madeCells, hi, this])
  rw [size_madeCells] at h
  exact h
theorem pairTo_even (I U : Nat → ByteArray) (k m : Nat) (h : m < k) : pairTo I U k (m * 2) = .string (I m) := by
  unfold pairTo
  rw [if_pos (by omega), if_pos (by omega), show m * 2 / 2 = m by omega]
theorem pairTo_odd (I U : Nat → ByteArray) (k m : Nat) (h : m < k) : pairTo I U k (m * 2 + 1) = .string (U m) := by
  unfold pairTo
  rw [if_pos (by omega), if_neg (by omega), show (m * 2 + 1) / 2 = m by omega]
theorem pairTo_past (I U : Nat → ByteArray) (k c : Nat) (h : k ≤ c / 2) : pairTo I U k c = .string ⟨#[]⟩ := by
  unfold pairTo
  rw [if_neg (by omega)]
theorem pairTo_step {w : World} {g n m : Nat} {I U : Nat → ByteArray} (h : w.rowIs g 33 n (pairTo I U m)) : ((w.setCell ⟨g, m * 2, none⟩ (.string (I m))).setCell ⟨g, m * 2 + 1, none⟩ (.string (U m))).rowIs g 33 n (pairTo I U (m + 1)) := by
  refine ((h.set (m * 2) _).set (m * 2 + 1) _).congr fun i _ => ?_
  show (if i = m * 2 + 1 then Value.string (U m) else if i = m * 2 then _ else _) = _
  by_cases e1 : i = m * 2 + 1
  · subst e1; rw [if_pos rfl, pairTo_odd _ _ _ _ (by omega)]
  · rw [if_neg e1]
    by_cases e2 : i = m * 2
    · subst e2; rw [if_pos rfl, pairTo_even _ _ _ _ (by omega)]
    · rw [if_neg e2]
      unfold pairTo
      by_cases e4 : i / 2 < m
      · rw [if_pos e4, if_pos (show i / 2 < m + 1 by omega)]
      · rw [if_neg e4, if_neg (show ¬ i / 2 < m + 1 by omega)]
theorem pairs_of_row {w : World} {g N : Nat} {I U : Nat → ByteArray} (h : w.rowIs g 33 (N * 2) (pairTo I U N)) : PairsAt w (some ⟨g, 0, none⟩) N I U := by
  refine .inr ⟨g, 0, rfl, fun r hr => ⟨?_, ?_⟩⟩
  · rw [Nat.zero_add, h.cell (by omega), pairTo_even _ _ _ _ hr]
  · rw [Nat.zero_add, h.cell (by omega), pairTo_odd _ _ _ _ hr]

/-- toStore's answer: nil for nil, else a fresh row of the same pairs. -/
def Stored (e : Ending) (w' : World) (N : Nat) (I U : Nat → ByteArray) : Prop := ∃ a, e = .returned (.slice a N N) ∧ PairsAt w' a N I U

set_option maxHeartbeats 1000000 in
theorem store9 (a : Option Addr) (N cap : Nat) (I U : Nat → ByteArray) (w : World) (hN : N ≤ 32768) (hnil : a = none → N = 0) (g : PairsAt w a N I U) :
    Calls Try.prog 9 #[.slice a N cap] w fun e w' => Stored e w' N I U ∧ Below w.heap.size w w' := by
  have q22 : ∀ (w : World) (a : Option Addr) (n c n' c' : Nat), (binOp .eql 22 (.slice a n c) (.slice none n' c')).run Try.prog w = .ok (.bool a.isNone) w := fun w a n c n' c' => Lib.run_eql_slice_nil w _ _ a n c n' c' Try.underlying22
  cases a with
  | none =>
    obtain rfl := hnil rfl
    go_enter Try.func9, Try.ntmps9
    go_wp2
    go_ret
    exact ⟨⟨none, rfl, .inl rfl⟩, Below.refl _ _⟩
  | some x =>
    have hmk := run_make33 N (by omega)
    have hg : 0 < N → ∃ b off, x = ⟨b, off, none⟩ ∧ ∀ r, r < N → w.cell? ⟨b, off + r * 2, none⟩ = some (.string (I r)) ∧ w.cell? ⟨b, off + r * 2 + 1, none⟩ = some (.string (U r)) := fun h0 => by
      obtain ⟨b, off, h1, h2⟩ := g.pos h0
      cases h1
      exact ⟨b, off, rfl, h2⟩
    have HG := hg
    clear hg g
    have HG2 : Hid (0 < N → ∃ b off, x = ⟨b, off, none⟩ ∧ ∀ r, r < N → w.cell? ⟨b, off + r * 2, none⟩ = some (.string (I r)) ∧ w.cell? ⟨b, off + r * 2 + 1, none⟩ = some (.string (U r))) := HG
    clear HG
    go_enter Try.func9, Try.ntmps9
    go_wp2
    go_loopw [4] (fun i wr => ∃ k : Nat, i = .int .i64 (k : Int) ∧ k ≤ N ∧ Hid (wr.rowIs w.heap.size 33 (N * 2) (pairTo I U k)) ∧ Hid (Below w.heap.size w wr)) (fun i _ => N - (intOf i).toNat)
    case atStart => exact ⟨0, rfl, Nat.zero_le _, pair_made w N I U, (Below.refl _ _).alloc (Nat.le_refl _) _⟩
    case round =>
      obtain ⟨k, rfl, hk, HR, HB⟩ := hrel
      by_cases hlt : k < N
      · obtain ⟨b, off, rfl, hz⟩ := HG2.out (by omega)
        have c1 : wr.cell? ⟨b, off + k * 2, none⟩ = some (.string (I k)) := cell_later HB.out (hz k hlt).1
        have c2 : wr.cell? ⟨b, off + k * 2 + 1, none⟩ = some (.string (U k)) := cell_later HB.out (hz k hlt).2
        have c3 := HR.out.cell (show k * 2 < N * 2 by omega)
        have c4 := HR.out.cell (show k * 2 + 1 < N * 2 by omega)
        have c5 := fun j => HR.out.frozen j
        rw [pairTo_past _ _ _ _ (by omega)] at c3 c4
        have hki : (k : Int) < (N : Int) := by omega
        clear hz hmk
        go_wp2
        go_region
        all_goals
          go_wp2
          go_roundw
          case rel => exact ⟨k + 1, by go_num, by omega, by first | exact pairTo_step HR.out | exact (pairTo_step HR.out).drew, by first | exact ((HB.out.setCell (Nat.le_refl _) _).setCell (Nat.le_refl _) _).drew | exact (HB.out.drew.setCell (Nat.le_refl _) _).setCell (Nat.le_refl _) _⟩
          case measure => simp [intOf]; omega
      · obtain rfl : N = k := by omega
        have HP : Hid (PairsAt wr (some ⟨w.heap.size, 0, none⟩) N I U) := pairs_of_row HR.out
        go_wp2
        go_ret
        exact ⟨⟨_, rfl, HP.out⟩, HB.out⟩

/-- The out slice of URIs, so far. -/
def OutAt (wr : World) (B H T n : Nat) (U : Nat → ByteArray) : Prop := wr.ownsRow B 9 1 (.slice (some ⟨H, 0, none⟩) n T) n ((List.range n).map fun r => .string (U r))
theorem OutAt.push {w1 : World} {B H T n : Nat} {U : Nat → ByteArray} (ho : w1.ownsRow B 9 1 (.slice (some ⟨H, 0, none⟩) (n + 1) T) (n + 1) (((List.range n).map fun r => .string (U r)) ++ [.string (U n)])) : OutAt w1 B H T (n + 1) U := by
  unfold OutAt
  rw [List.range_succ, List.map_append]
  exact ho
theorem OutAt.cell {wr : World} {B H T n : Nat} {U : Nat → ByteArray} (h : OutAt wr B H T n U) {c : Nat} (hc : c < n) : wr.cell? ⟨H, c, none⟩ = some (.string (U c)) := by
  have := World.ownsRow.cellAt h c (by omega)
  rw [this]
  simp [hc]
theorem one_new' (w : World) (o : Obj) (v : Value) (t : TypeId) : ∀ j u, ([v] : List Value)[j]? = some u → ((w.alloc o).alloc (.cells #[v] t)).cell? ((⟨w.heap.size + 1, 0, none⟩ : Addr).add j) = some u := by
  intro j u h
  match j, h with
  | 0, h => simp at h; subst h; simp [Addr.add]
  | j + 1, h => simp at h

set_option maxHeartbeats 1000000 in
theorem uris10 (a : Option Addr) (N cap : Nat) (I U : Nat → ByteArray) (w : World) (hN : N ≤ 32768) (g : PairsAt w a N I U) :
    Calls Try.prog 10 #[.slice a N cap] w fun e w' => e = .returned (.slice (some ⟨w.heap.size, 0, none⟩) N N) ∧ (∀ c, c < N → w'.cell? ⟨w.heap.size, c, none⟩ = some (.string (U c))) ∧ Below w.heap.size w w' := by
  obtain ⟨i0, hi, hz0, hz1, hz2⟩ := info_parts Try.info9
  go_enter Try.func10, Try.ntmps10
  go_wp2_with (at_make; refine wpList_make_own _ rfl _ _ 28 rfl w.heap.size 9 i0 (.string ⟨#[]⟩) 1 Try.underlying28 hi hz0 hz1 _ _ _ N rfl rfl rfl ?b2 ?b3 (Nat.le_refl _) ?_)
  case b2 => first | omega | (rw [hz2]; omega)
  case b3 => unfold maxLen; omega
  intro w0 hown0 hgrow0
  have HO0 : Hid (OutAt w0 w.heap.size w.heap.size N 0 U) := by show OutAt _ _ _ _ _ _; simpa [OutAt] using hown0
  have HB0 : Hid (Below w.heap.size w w0) := (Below.refl _ _).grown hgrow0 (Nat.le_refl _) (fun k h => by cases h)
  clear hown0 hgrow0
  go_wp2
  go_loopw [3, 11] (fun out i wr => ∃ k : Nat, i = .int .i64 (k : Int) ∧ k ≤ N ∧ out = .slice (some ⟨w.heap.size, 0, none⟩) k N ∧ Hid (OutAt wr w.heap.size w.heap.size N k U) ∧ Hid (Below w.heap.size w wr)) (fun _ i _ => N - (intOf i).toNat)
  case atStart => exact ⟨0, rfl, Nat.zero_le _, rfl, HO0, HB0⟩
  case round =>
    clear HO0 HB0
    obtain ⟨k, rfl, hk, rfl, HO, HB⟩ := hrel
    by_cases hlt : k < N
    · obtain ⟨b, off, rfl, hz⟩ := g.pos (by omega)
      have c1 : wr.cell? ⟨b, off + k * 2, none⟩ = some (.string (I k)) := cell_later HB.out (hz k hlt).1
      have c2 : wr.cell? ⟨b, off + k * 2 + 1, none⟩ = some (.string (U k)) := cell_later HB.out (hz k hlt).2
      have HOW : Hid (∀ o o', ((wr.alloc o).alloc o').ownsRow w.heap.size 9 1 (.slice (some ⟨w.heap.size, 0, none⟩) k N) k ((List.range k).map fun r => .string (U r))) := fun o o' => (World.ownsRow.alloc HO.out o).alloc o'
      have fin : Hid (∀ o o' w1, w1.ownsRow w.heap.size 9 1 (.slice (some ⟨w.heap.size, 0, none⟩) (k + 1) N) (k + 1) (((List.range k).map fun r => .string (U r)) ++ [.string (U k)]) → ((wr.alloc o).alloc o').grownBy w1 (some w.heap.size) → OutAt w1 w.heap.size w.heap.size N (k + 1) U ∧ Below w.heap.size w w1) := fun o o' w1 h1 h2 =>
        ⟨OutAt.push h1, ((HB.out.alloc HB.out.size o).alloc (by simp; have := HB.out.size; omega) o').grown h2 (by simp; have := HB.out.size; omega) (fun k hk => by cases hk; exact Nat.le_refl _)⟩
      clear hz g HO HB
      go_wp2_with (at_builtin; refine wpList_append_fits _ rfl (.tmp 15) (.tmp 18) 28 rfl w.heap.size 9 i0 1 Try.underlying28 hi hz1 w.heap.size k N _ rfl (HOW.out _ _) ⟨wr.heap.size + 1, 0, none⟩ 1 1 [.string (U k)] rfl rfl (one_new' _ _ _ _) (by intro u hu; simp at hu; subst hu; rfl) (by omega) ?_; intro w1 hown1 hgrow1)
      go_roundw
      case rel => exact ⟨k + 1, by go_num, by omega, rfl, (fin.out _ _ _ hown1 hgrow1).1, (fin.out _ _ _ hown1 hgrow1).2⟩
      case measure => simp [intOf]; omega
    · obtain rfl : N = k := by omega
      have HC : Hid (∀ c, c < N → wr.cell? ⟨w.heap.size, c, none⟩ = some (.string (U c))) := fun c hc => HO.out.cell hc
      go_wp2
      go_ret
      exact ⟨rfl, HC.out, HB.out⟩
end Go.Proofs.Qxb6605154a
