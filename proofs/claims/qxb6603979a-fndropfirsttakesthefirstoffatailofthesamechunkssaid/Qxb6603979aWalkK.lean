/-
  THE WALKS of dropFirst's law: zzSameChunk, chunkSize, dropFirst through ZZDropFirst.
-/
import Derived.Test.Qxb6603979aWalkJ
import Derived.LaidEqlPtr
namespace Go.Proofs.Qxb6603979a
open Go.ChangeShapes Go.WideShapes Go.ChangeAt Go.RowKit

theorem run_neq_ptr_same {P : Program} (w : World) {tp te : TypeId} {j : TypeInfo} (a : Addr) (hp : P.underlying tp = some (.pointer te)) (hte : P.info? te = some j) :
    (binOp .neq tp (.pointer (some a)) (.pointer (some a))).run P w = .ok (.bool false) w := by
  have h : ∀ d : Nat, (Op.equalIn (d + 1) tp (.pointer (some a)) (.pointer (some a))).run P w = .ok true w := fun d => by
    simp [Op.equalIn, run_underlying hp, sizeOf, typeInfo, hte, run_sameAddr_same]
  simp only [binOp]
  simp [Op.equal, Op.maxDepth, h 9999]
theorem eql71 (a : Addr) (w : World) : (binOp .eql 71 (.pointer (some a)) (.pointer (some a))).run Try.prog w = .ok (.bool true) w := by
  obtain ⟨i, hi, _⟩ := info_parts Try.info65
  exact run_eql_ptr_same w a Try.underlying71 hi
theorem neq48 (a : Addr) (w : World) : (binOp .neq 48 (.pointer (some a)) (.pointer (some a))).run Try.prog w = .ok (.bool false) w := by
  obtain ⟨i, hi, _⟩ := info_parts Try.info42
  exact run_neq_ptr_same w a Try.underlying48 hi

theorem same27 (g n : Nat) (w : World) (h0 : 0 < n) (h1 : n ≤ 131072) :
    Calls Try.prog 27 #[.slice (some ⟨g, 0, none⟩) n n, .slice (some ⟨g, 0, none⟩) n n] w fun e w' => e = .returned (.bool true) ∧ ∃ q, w' = w.drewN q := by
  have hn : ((n : Int) == 0) = false := by simp; omega
  have hni : (0 : Int) < (n : Int) := by omega
  have q71 := eql71
  go_enter Try.func27, Try.ntmps27
  go_wp2
  go_quiet (fail)
  go_wp2
  go_ret
  exact ⟨rfl, _, rfl⟩

theorem size40 (S : Nat) (size : Int) (w : World) (h : w.cell? ⟨S, 3, none⟩ = some (.int .i64 size)) : Calls Try.prog 40 #[.pointer (some ⟨S, 0, none⟩)] w fun e w' => e = .returned (.int .i64 (chunkS size)) ∧ w' = w := by
  unfold chunkS
  by_cases hp : 0 < size
  · rw [if_pos hp]
    go_enter Try.func40, Try.ntmps40
    go_wp2
    go_ret
    exact ⟨rfl, rfl⟩
  · rw [if_neg hp]
    go_enter Try.func40, Try.ntmps40
    go_wp2
    go_ret
    exact ⟨rfl, rfl⟩

set_option maxHeartbeats 400000 in
/-- The list empties. -/
theorem dropE (a : Option Addr) (N c : Nat) (f size : Int) (w : World) (hf0 : 0 ≤ f) (hf1 : f ≤ 131072) :
    Calls Try.prog 25 #[.slice a N c, .int .i64 f, .int .i64 1, .int .i64 size] w fun e w' => e = .returned (.tuple #[.slice none 0 0, .int .i64 0, .int .i64 0, .int .i64 size]) ∧ Below w.heap.size w w' := by
  go_enter Try.func25, Try.ntmps25
  go_wp2
  go_end0
  go_wp2
  go_quiet (fail)
  go_wp2
  refine bodyPost_ret (v := .tuple #[.slice none 0 0, .int .i64 0, .int .i64 0, .int .i64 size]) (by simp [results, Try.results25, go_sem]) rfl ⟨rfl, ?_⟩
  exact below_drewN ((Below.refl _ _).alloc (Nat.le_refl _) _) _

set_option maxHeartbeats 400000 in
/-- The first chunk stays. -/
theorem dropB (a : Option Addr) (N c : Nat) (f n size s : Int) (w : World) (hf0 : 0 ≤ f) (hf1 : f ≤ 131072) (hn : 1 < n) (hn1 : n ≤ 131072) (hs : Hid (chunkS size = s)) (hfs : (f + 1 == s) = false) :
    Calls Try.prog 25 #[.slice a N c, .int .i64 f, .int .i64 n, .int .i64 size] w fun e w' => e = .returned (.tuple #[.slice a N c, .int .i64 (f + 1), .int .i64 (n - 1), .int .i64 size]) ∧ Below w.heap.size w w' := by
  have hn0 : (n - 1 == 0) = false := by simp; omega
  have K40 : Hid (∀ (S : Nat) (w : World), w.cell? ⟨S, 3, none⟩ = some (.int .i64 size) → Calls Try.prog 40 #[.pointer (some ⟨S, 0, none⟩)] w fun e w' => e = .returned (.int .i64 s) ∧ w' = w) := fun S w h => by
    have := size40 S size w h; rw [hs.out] at this; exact this
  go_enter Try.func25, Try.ntmps25
  go_wp2
  go_quiet ((go_at_call 40; exact Calls.quiet_of_same (K40.out _ _ (by simp))))
  go_wp2
  go_end0
  go_wp2
  go_quiet (fail)
  go_wp2
  refine bodyPost_ret (v := .tuple #[.slice a N c, .int .i64 (f + 1), .int .i64 (n - 1), .int .i64 size]) (by simp [results, Try.results25, go_sem]) rfl ⟨rfl, ?_⟩
  exact below_drewN (below_drewN ((Below.refl _ _).alloc (Nat.le_refl _) _) _) _

theorem below_set_alloc (w : World) (o : Obj) (q : Nat) (a : Addr) (v : Value) : Below w.heap.size (w.setCell a v) (((w.alloc o).drewN q).setCell a v) := by
  refine ⟨rfl, rfl, rfl, by simp [World.setCell], fun k hk => ?_⟩
  have h := Below.heap_alloc w o k hk
  simp only [World.setCell, Array.getElem?_modify, World.heap_drewN, h]

set_option maxHeartbeats 400000 in
/-- The first chunk is let go. -/
theorem dropA (G N : Nat) (v : Value) (f n size s : Int) (w : World) (hN : 2 ≤ N) (hN1 : N ≤ 65536) (hf0 : 0 ≤ f) (hf1 : f ≤ 131072) (hn : 1 < n) (hn1 : n ≤ 131072) (hs : Hid (chunkS size = s)) (hfs : (f + 1 == s) = true)
    (hG : w.cell? ⟨G, 0, none⟩ = some v) (hG2 : w.frozen? ⟨G, 0, none⟩ = false) :
    Calls Try.prog 25 #[.slice (some ⟨G, 0, none⟩) N N, .int .i64 f, .int .i64 n, .int .i64 size] w fun e w' => e = .returned (.tuple #[.slice (some ⟨G, 1, none⟩) (N - 1) (N - 1), .int .i64 0, .int .i64 (n - 1), .int .i64 size]) ∧ Below w.heap.size (w.setCell ⟨G, 0, none⟩ (.slice none 0 0)) w' := by
  have hn0 : (n - 1 == 0) = false := by simp; omega
  have hNi : (0 : Int) < (N : Int) := by omega
  have hNi1 : (1 : Int) ≤ (N : Int) := by omega
  have K40 : Hid (∀ (S : Nat) (w : World), w.cell? ⟨S, 3, none⟩ = some (.int .i64 size) → Calls Try.prog 40 #[.pointer (some ⟨S, 0, none⟩)] w fun e w' => e = .returned (.int .i64 s) ∧ w' = w) := fun S w h => by
    have := size40 S size w h; rw [hs.out] at this; exact this
  have hlt := World.block_lt_of_cell? _ _ hG
  have g1 : ∀ o q, ((w.alloc o).drewN q).cell? ⟨G, 0, none⟩ = some v := fun o q => by
    show (w.alloc o).cell? _ = _
    rw [World.cell?_alloc_lt (h := hlt)]; exact hG
  have g2 : ∀ o q, ((w.alloc o).drewN q).frozen? ⟨G, 0, none⟩ = false := fun o q => by
    have := ((Below.refl w.heap.size w).alloc (Nat.le_refl _) o).frozen (p := ⟨G, 0, none⟩) hlt
    rw [← hG2]; exact this
  go_enter Try.func25, Try.ntmps25
  go_wp2
  go_quiet ((go_at_call 40; exact Calls.quiet_of_same (K40.out _ _ (by simp))))
  go_wp2
  go_end0
  go_wp2
  go_quiet (fail)
  go_wp2
  refine bodyPost_ret (v := .tuple #[.slice (some ⟨G, 1, none⟩) (N - 1) (N - 1), .int .i64 0, .int .i64 (n - 1), .int .i64 size]) (by simp [results, Try.results25, go_sem]) rfl ⟨rfl, ?_⟩
  exact below_drewN (((below_set_alloc _ _ _ _ _).setCell (by dsimp only; omega) _).setCell (by dsimp only; omega) _) _
end Go.Proofs.Qxb6603979a
