/-
  'zzc := make([]T, len(x)); copy(zzc, x)' AT A SLICE OF INTEGERS: both runs as equations for the walk, and what the new row holds. No dump.
-/
import Derived.WalkKit
import Derived.Below
import Derived.Deep.OwnRows
import Derived.Laws.CopyOwn
import Derived.Laws.IdiomCopy
namespace Go.Proofs.Qxb6603979a
open Go.RowKit

/-- The cells of a row of integers. -/
def rowCells (k : IntKind) (zs : List Int) (len : Nat) : List Value := (List.range len).map fun j => .int k (zs.getD j 0)
theorem rowCells_length (k : IntKind) (zs : List Int) (len : Nat) : (rowCells k zs len).length = len := by simp [rowCells]
theorem rowCells_get (k : IntKind) (zs : List Int) (len j : Nat) (h : j < len) : (rowCells k zs len)[j]? = some (.int k (zs.getD j 0)) := by
  simp [rowCells, h]

theorem copied {P : Program} (T E : TypeId) (k : IntKind) (bytes : Nat) (hT : P.underlying T = some (.slice E)) (hinfo : (P.info? E).map (fun i => (i.zero, i.size, i.bytes)) = some (some (.int k 0), 1, bytes))
    (ad : Addr) (len cap : Nat) (zs : List Int) (hb : bytes * len ≤ 281474976710656) (h63 : len ≤ 9223372036854775807) (w : World) (hc : ∀ j, j < len → w.cell? (ad.add j) = some (.int k (zs.getD j 0))) :
    ∃ W1 W2, (Instr.makeSlice T (.int .i64 (len : Int)) (.int .i64 (len : Int))).run P w = .ok (.slice (some ⟨w.heap.size, 0, none⟩) len len) W1 ∧
      (∀ ty, (Builtin.copy_ #[T, T] ty #[.slice (some ⟨w.heap.size, 0, none⟩) len len, .slice (some ad) len cap]).run P W1 = .ok (goInt len) W2) ∧
      Below w.heap.size w W2 ∧ W2.heap.size = w.heap.size + 1 ∧ ∀ j, j < len → W2.cell? ⟨w.heap.size, j, none⟩ = some (.int k (zs.getD j 0)) := by
  have hmk := run_make_row' (P := P) T E (.int k 0) bytes hT hinfo rfl .i64 .i64 len hb h63 w
  have hsz : (P.info? E).map (·.size) = some 1 := by
    obtain ⟨i, hi, hzz⟩ := Option.map_eq_some_iff.1 hinfo
    simp only [Prod.mk.injEq] at hzz
    rw [hi]
    simp [hzz.2.1]
  have hrow := World.rowIs_made w (.int k 0) len E
  have hblk : (w.alloc (.cells (madeCells #[.int k 0] len) E)).heap[w.heap.size]? = some (.cells (madeCells #[.int k 0] len) E (0, 0)) := by
    show (w.heap.push _)[w.heap.size]? = _
    simp
  have hb1 : Below w.heap.size w (w.alloc (.cells (madeCells #[.int k 0] len) E)) := (Below.refl _ _).alloc (Nat.le_refl _) _
  have hs1 : (w.alloc (.cells (madeCells #[.int k 0] len) E)).heap.size = w.heap.size + 1 := by simp
  by_cases h0 : len = 0
  · subst h0
    refine ⟨_, _, hmk, fun ty => run_copy_none (P := P) _ T T ty E _ _ 0 0 0 cap hT hsz (by simp), hb1, hs1, fun j hj => by omega⟩
  · have hcopy : ∀ ty, (Builtin.copy_ #[T, T] ty #[.slice (some ⟨w.heap.size, 0, none⟩) len len, .slice (some ad) len cap]).run P (w.alloc (.cells (madeCells #[.int k 0] len) E)) = _ := fun ty =>
      run_copy_row (P := P) (w.alloc (.cells (madeCells #[.int k 0] len) E)) T T ty E w.heap.size 0 len len ad len cap (madeCells #[.int k 0] len) E (rowCells k zs len) hT hsz hblk
        (by rw [rowCells_length]; exact (Nat.min_self _).symm) (fun j v hv => by
          have hj : j < len := by
            have := (List.getElem?_eq_some_iff.1 hv).1
            rwa [rowCells_length] at this
          rw [rowCells_get k zs len j hj] at hv
          have := hc j hj
          rw [World.cell?_alloc_lt (h := World.block_lt_of_cell? _ _ this), this, hv]) (by rw [rowCells_length, size_madeCells]; omega) (fun v hv => by
          simp [rowCells] at hv
          obtain ⟨j, _, rfl⟩ := hv
          rfl)
    have hlen2 : (rowCells k zs len).length = len := rowCells_length k zs len
    refine ⟨_, _, hmk, fun ty => by rw [hcopy ty, hlen2], below_setRow hb1 (Nat.le_refl _) _, by simp [World.setRow], fun j hj => ?_⟩
    have hh := setRow_heap (w.alloc (.cells (madeCells #[.int k 0] len) E)) w.heap.size (madeCells #[.int k 0] len) ((madeCells #[.int k 0] len).toList.take 0 ++ rowCells k zs len ++ (madeCells #[.int k 0] len).toList.drop (0 + len)).toArray E (0, 0) hblk
    simp only [World.cell?]
    rw [hh]
    simp [List.getElem?_append, hj, rowCells]
end Go.Proofs.Qxb6603979a
