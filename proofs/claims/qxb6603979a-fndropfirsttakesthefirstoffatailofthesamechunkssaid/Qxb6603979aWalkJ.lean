/-
  THE WALKS of dropFirst's law: ZZChangeOf, ZZRevisionOfChange, zzBuildChanges.
-/
import Derived.Test.Qxb6603979aWalkI
namespace Go.Proofs.Qxb6603979a
open Go.ChangeShapes Go.WideShapes Go.ChangeAt Go.RowKit

theorem change36 (r : Int) (w : World) : Calls Try.prog 36 #[.int .i64 r] w fun e w' => e = .returned (.agg #[.int .i64 r, .pointer none]) ∧ w' = w.alloc (.cells #[.int .i64 r, .pointer none] 65) := by
  go_enter Try.func36, Try.ntmps36
  go_wp2
  exact bodyPost_ret (v := .agg #[.int .i64 r, .pointer none]) (by simp [results, Try.results36, go_sem]) rfl ⟨rfl, rfl⟩
theorem rev38 (r : Int) (p : Option Addr) (w : World) : Calls Try.prog 38 #[.agg #[.int .i64 r, .pointer p]] w fun e w' => e = .returned (.int .i64 r) ∧ w' = w.alloc (.cells #[.int .i64 r, .pointer p] 65) := by
  go_enter Try.func38, Try.ntmps38
  go_wp2
  go_ret
  exact ⟨rfl, rfl⟩

theorem Try.info42 : (Try.prog.info? 42).map (fun i => (i.zero, i.size, i.bytes)) = some (some (.slice none 0 0), 1, 24) := by kernel_rfl
theorem Try.info65 : (Try.prog.info? 65).map (fun i => (i.zero, i.size, i.bytes)) = some (some (.agg #[.int .i64 0, .pointer none]), 2, 16) := by kernel_rfl

theorem run_make65 (n : Nat) (hn : n ≤ 131072) (w : World) :
    (Instr.makeSlice 42 (.int .i64 (n : Int)) (.int .i64 (n : Int))).run Try.prog w = .ok (.slice (some ⟨w.heap.size, 0, none⟩) n n) (w.alloc (.cells (madeCells #[.int .i64 0, .pointer none] (n * 2)) 65)) := by
  obtain ⟨i, hi, hz, hs, hb⟩ := info_parts Try.info65
  have hr := run_make (P := Try.prog) w 42 65 i _ Try.underlying42 hi hz .i64 .i64 n n (by omega) (Int.le_refl _) (by rw [hb]; omega) (by omega)
  simp only [Int.toNat_natCast, hs] at hr
  exact hr

/-- A chunk of changes, filled up to k. -/
def chunkTo (zs : List Int) (k : Nat) : Nat → Value := fun c => if c % 2 = 0 then (if c / 2 < k then .int .i64 (zs.getD (c / 2) 0) else .int .i64 0) else .pointer none
theorem chunk_made (w : World) (n : Nat) (zs : List Int) : (w.alloc (.cells (madeCells #[.int .i64 0, .pointer none] (n * 2)) 65)).rowIs w.heap.size 65 (n * 2) (chunkTo zs 0) := by
  have h := World.rowIs_alloc w (madeCells #[.int .i64 0, .pointer none] (n * 2)) 65 (chunkTo zs 0) (fun i hi => by
    rw [size_madeCells] at hi
    unfold chunkTo
    by_cases h2 : i % 2 = 0
    · simp [madeCells, hi, h2]
    · have : i % 2 = 1 := by omega
      simp [madeCells, hi, this])
  rw [size_madeCells] at h
  exact h

theorem chunkTo_even (zs : List Int) (k m : Nat) : chunkTo zs k (m * 2) = if m < k then .int .i64 (zs.getD m 0) else .int .i64 0 := by
  unfold chunkTo
  rw [if_pos (by omega), show m * 2 / 2 = m by omega]
theorem chunkTo_odd (zs : List Int) (k m : Nat) : chunkTo zs k (m * 2 + 1) = .pointer none := by
  unfold chunkTo
  rw [if_neg (by omega)]
theorem chunkTo_step {w : World} {g n m : Nat} {zs : List Int} (h : w.rowIs g 65 n (chunkTo zs m)) : ((w.setCell ⟨g, m * 2, none⟩ (.int .i64 (zs.getD m 0))).setCell ⟨g, m * 2 + 1, none⟩ (.pointer none)).rowIs g 65 n (chunkTo zs (m + 1)) := by
  refine ((h.set (m * 2) _).set (m * 2 + 1) _).congr fun i _ => ?_
  show (if i = m * 2 + 1 then Value.pointer none else if i = m * 2 then _ else _) = _
  by_cases e1 : i = m * 2 + 1
  · subst e1; rw [if_pos rfl, chunkTo_odd]
  · rw [if_neg e1]
    by_cases e2 : i = m * 2
    · subst e2; rw [if_pos rfl, chunkTo_even, if_pos (by omega)]
    · rw [if_neg e2]
      unfold chunkTo
      by_cases e3 : i % 2 = 0
      · rw [if_pos e3, if_pos e3]
        by_cases e4 : i / 2 < m
        · rw [if_pos e4, if_pos (by omega)]
        · rw [if_neg e4, if_neg (by omega)]
      · rw [if_neg e3, if_neg e3]

/-- The row of chunks, filled up to k. -/
def rowsTo (gs L : Nat → Nat) (k : Nat) : Nat → Value := fun r => if r < k then .slice (some ⟨gs r, 0, none⟩) (L r) (L r) else .slice none 0 0
/-- THE BUILT LIST, up to chunk k: the row of chunks at block G, chunk r at block gs r. -/
structure Built (w : World) (B G N : Nat) (gs L : Nat → Nat) (Z : Nat → List Int) (k : Nat) : Prop where
  row : w.rowIs G 42 N (rowsTo gs L k)
  far : ∀ r, r < k → B ≤ gs r ∧ gs r ≠ G
  chunk : ∀ r, r < k → w.rowIs (gs r) 65 (L r * 2) (chunkTo (Z r) (L r))

theorem Built.later {w w' : World} {B G N : Nat} {gs L : Nat → Nat} {Z : Nat → List Int} {k : Nat} (h : Built w B G N gs L Z k) (hb : Below w.heap.size w w') : Built w' B G N gs L Z k :=
  ⟨h.row.of_block (hb.block _ h.row.lt), h.far, fun r hr => (h.chunk r hr).of_block (hb.block _ (h.chunk r hr).lt)⟩
theorem Built.step {w : World} {B G N : Nat} {gs L : Nat → Nat} {Z : Nat → List Int} {k g : Nat} (h : Built w B G N gs L Z k) (hB : B ≤ g) (hg : g ≠ G) (hc : w.rowIs g 65 (L k * 2) (chunkTo (Z k) (L k))) :
    Built (w.setCell ⟨G, k, none⟩ (.slice (some ⟨g, 0, none⟩) (L k) (L k))) B G N (fun r => if r = k then g else gs r) L Z (k + 1) := by
  refine ⟨(h.row.set k _).congr fun i _ => ?_, fun r hr => ?_, fun r hr => ?_⟩
  · show (if i = k then _ else rowsTo gs L k i) = _
    unfold rowsTo
    by_cases e : i = k
    · subst e; rw [if_pos rfl, if_pos (by omega)]; simp only [if_true]
    · rw [if_neg e]
      by_cases e2 : i < k
      · rw [if_pos e2, if_pos (by omega)]; simp only [e, if_false]
      · rw [if_neg e2, if_neg (by omega)]
  · by_cases e : r = k
    · simp only [e, if_true]; exact ⟨hB, hg⟩
    · simp only [e, if_false]; exact h.far r (by omega)
  · by_cases e : r = k
    · subst e; simp only [if_true]; exact hc.setOther (a := ⟨G, r, none⟩) hg _
    · simp only [e, if_false]; exact (h.chunk r (by omega)).setOther (a := ⟨G, k, none⟩) (h.far r (by omega)).2 _

set_option maxHeartbeats 1000000 in
theorem build_any (b off N cap : Nat) (A : Nat → Option Addr) (L C : Nat → Nat) (Z : Nat → List Int) (w : World) (hN0 : 0 < N) (hN : N ≤ 65536) (hL0 : ∀ r, r < N → 0 < L r) (hL : ∀ r, r < N → L r ≤ 131072)
    (hz : ∀ r, r < N → w.cell? ⟨b, off + r, none⟩ = some (.slice (A r) (L r) (C r)))
    (hA : ∀ r, r < N → ∃ b' o', A r = some ⟨b', o', none⟩ ∧ ∀ c, c < L r → w.cell? ⟨b', o' + c, none⟩ = some (.int .i64 ((Z r).getD c 0))) :
    Calls Try.prog 24 #[.slice (some ⟨b, off, none⟩) N cap] w fun e w' => e = .returned (.slice (some ⟨w.heap.size, 0, none⟩) N N) ∧ (∃ gs, Built w' w.heap.size w.heap.size N gs L Z N) ∧ Below w.heap.size w w' := by
  have q34 : ∀ (w : World) (a : Option Addr) (n c n' c' : Nat), (binOp .eql 34 (.slice a n c) (.slice none n' c')).run Try.prog w = .ok (.bool a.isNone) w := fun w a n c n' c' => Lib.run_eql_slice_nil w _ _ a n c n' c' Try.underlying34
  have q22 : ∀ (w : World) (a : Option Addr) (n c n' c' : Nat), (binOp .eql 22 (.slice a n c) (.slice none n' c')).run Try.prog w = .ok (.bool a.isNone) w := fun w a n c n' c' => Lib.run_eql_slice_nil w _ _ a n c n' c' Try.underlying22
  have hmk := run_make_row' (P := Try.prog) 40 42 (.slice none 0 0) 24 Try.underlying40 Try.info42 rfl .i64 .i64 N (by omega) (by omega)
  go_enter Try.func24, Try.ntmps24
  go_wp2
  go_loopw [4] (fun i wr => ∃ k : Nat, i = .int .i64 (k : Int) ∧ k ≤ N ∧ Hid (∃ gs, Built wr w.heap.size w.heap.size N gs L Z k) ∧ Hid (Below w.heap.size w wr)) (fun i _ => N - (intOf i).toNat)
  case atStart =>
    refine ⟨0, rfl, Nat.zero_le _, ⟨fun _ => 0, ⟨?_, fun r hr => by omega, fun r hr => by omega⟩⟩, (Below.refl _ _).alloc (Nat.le_refl _) _⟩
    exact (World.rowIs_made w (.slice none 0 0) N 42).congr fun i _ => by unfold rowsTo; rw [if_neg (by omega)]
  case round =>
    obtain ⟨k, rfl, hk, HG, HB⟩ := hrel
    obtain ⟨wo, rfl⟩ : ∃ wo : World, wo = wr := ⟨_, rfl⟩
    by_cases hlt : k < N
    · obtain ⟨gs, hbt⟩ := HG.out
      have HT : Hid (Built wo w.heap.size w.heap.size N gs L Z k) := hbt
      obtain ⟨b', o', hAk, hzk⟩ := hA k hlt
      have hLk := hL k hlt
      have hLk0 := hL0 k hlt
      have c1 : wo.cell? ⟨b, off + k, none⟩ = some (.slice (some ⟨b', o', none⟩) (L k) (C k)) := by rw [← hAk]; exact cell_later HB.out (hz k hlt)
      have hmk2 := run_make65 (L k) hLk
      clear hbt HG hz hA hmk hAk
      go_wp2
      go_loopw [6] (fun j wr => ∃ m : Nat, j = .int .i64 (m : Int) ∧ m ≤ L k ∧ Hid (wr.rowIs wo.heap.size 65 (L k * 2) (chunkTo (Z k) m)) ∧ Hid (Below wo.heap.size wo wr)) (fun j _ => L k - (intOf j).toNat)
      case atStart => exact ⟨0, rfl, Nat.zero_le _, chunk_made wo (L k) (Z k), (Below.refl _ _).alloc (Nat.le_refl _) _⟩
      case round =>
        obtain ⟨m, rfl, hm, HR, HB2⟩ := hrel
        have d1 : wr.cell? ⟨b, off + k, none⟩ = some (.slice (some ⟨b', o', none⟩) (L k) (C k)) := cell_later HB2.out c1
        clear c1
        by_cases hmlt : m < L k
        · obtain ⟨z, hzz⟩ : ∃ z, Hid ((Z k).getD m 0 = z) := ⟨_, rfl⟩
          have d2 : wr.cell? ⟨b', o' + m, none⟩ = some (.int .i64 z) := by rw [← hzz.out]; exact cell_later HB2.out (cell_later HB.out (hzk m hmlt))
          have d3 : ∀ o, (wr.alloc o).cell? ⟨wo.heap.size, m * 2, none⟩ = some (chunkTo (Z k) m (m * 2)) := fun o => (HR.out.alloc o).cell (by omega)
          have d4 : ∀ o, (wr.alloc o).cell? ⟨wo.heap.size, m * 2 + 1, none⟩ = some (chunkTo (Z k) m (m * 2 + 1)) := fun o => (HR.out.alloc o).cell (by omega)
          have d5 : ∀ o j, (wr.alloc o).frozen? ⟨wo.heap.size, j, none⟩ = false := fun o j => (HR.out.alloc o).frozen j
          rw [chunkTo_even, if_neg (by omega)] at d3
          rw [chunkTo_odd] at d4
          clear hzk
          go_wp2_with (go_at_call 36; refine (change36 _ _).mono ?_; rintro e w1 ⟨rfl, rfl⟩)
          go_roundw
          case rel => exact ⟨m + 1, by go_num, by omega, by rw [← hzz.out]; exact chunkTo_step (HR.out.alloc _), ((HB2.out.alloc HB2.out.size _).setCell (Nat.le_refl _) _).setCell (Nat.le_refl _) _⟩
          case measure => simp [intOf]; omega
        · obtain rfl : m = L k := by omega
          have HT2 : Hid (Built wr w.heap.size w.heap.size N gs L Z k) := HT.out.later HB2.out
          have d3 := HT2.out.row.cell hlt
          have d4 := HT2.out.row.frozen k
          have hlt2 : w.heap.size ≠ wo.heap.size := Nat.ne_of_lt HT.out.row.lt
          have hle2 := HB.out.size
          unfold rowsTo at d3
          rw [if_neg (by omega)] at d3
          clear hzk HT
          go_wp2
          go_roundw
          case rel => exact ⟨k + 1, by go_num, by omega, ⟨_, HT2.out.step hle2 (Ne.symm hlt2) HR.out⟩, (HB.out.trans (HB2.out.mono hle2)).setCell (Nat.le_refl _) _⟩
          case measure => simp [intOf]; omega
    · obtain rfl : k = N := by omega
      go_wp2
      go_ret
      exact ⟨rfl, HG.out, HB.out⟩
end Go.Proofs.Qxb6603979a
