/-
  THE WALK of ZZSkipString.
-/
import Derived.Test.Qxb6600908aWalkA
namespace Go.Proofs.Qxb6600908a
open Go.ChangeShapes Go.WideShapes Go.ChangeAt Go.RowKit

/-- What ZZSkipString answers: the place and the line. -/
def Told (e : Ending) (s : ByteArray) (p : Nat) (q : UInt8) (L : Int) : Prop :=
  ∃ d, d = dOf s.data.toList q p ∧ e = .returned (.tuple #[.int .i64 ((p + d + (scan q d (s.data.toList.drop (p + d))).1 : Nat) : Int), .int .i64 (wrap64 (L + ((scan q d (s.data.toList.drop (p + d))).2 : Nat)))])

set_option maxHeartbeats 400000 in
theorem zz7 (s : ByteArray) (p : Nat) (q : UInt8) (L : Int) (w : World) (hs : s.size ≤ 4194304) (hp : p < s.size) (hq : s[p] = q) (hL : (Lit.int .i64 L).wf = true) :
    Calls Try.prog 7 #[.string s, .int .i64 (p : Int), .int .i64 L] w fun e w' => Told e s p q L ∧ Below w.heap.size w w' := by
  have HA : Hid (At w.heap.size s (p : Int) L (w.alloc (Obj.cells #[Value.string s, Value.int IntKind.i64 ↑p, Value.int IntKind.i64 L, Value.slice none 0 0] 37))) :=
    ⟨by simp, by simp, by simp, by simp, by simp⟩
  have C17 := skip17 s p q L w.heap.size _ hs hp hq hL (by simp) HA.out
  have HC : Hid (Calls Try.prog 17 #[.pointer (some ⟨w.heap.size, 0, none⟩)] (w.alloc (Obj.cells #[Value.string s, Value.int IntKind.i64 ↑p, Value.int IntKind.i64 L, Value.slice none 0 0] 37)) fun e w' => e = .returned (.tuple #[]) ∧ Hid (Skipped (w.alloc (Obj.cells #[Value.string s, Value.int IntKind.i64 ↑p, Value.int IntKind.i64 L, Value.slice none 0 0] 37)) w' w.heap.size s p q L)) := C17
  clear C17 HA
  go_enter Try.func7, Try.ntmps7
  go_wp2_with fail
  refine HC.out.mono ?_
  rintro e w1 ⟨rfl, d, hd, ga, hb⟩
  have HB : Hid (Below w.heap.size w w1) := ((Below.refl _ _).alloc (Nat.le_refl _) _).trans hb
  obtain ⟨Z, hZ⟩ : ∃ Z : Int, Hid (((p + d + (scan q d (s.data.toList.drop (p + d))).1 : Nat) : Int) = Z) := ⟨_, rfl⟩
  obtain ⟨V, hV⟩ : ∃ V : Int, Hid (wrap64 (L + ((scan q d (s.data.toList.drop (p + d))).2 : Nat)) = V) := ⟨_, rfl⟩
  have HD : Hid (d = dOf s.data.toList q p) := hd
  rw [hZ.out, hV.out] at ga
  obtain ⟨c0, c1, c2, f1, f2⟩ := ga
  clear hd hb HC
  go_wp2_with fail
  go_quiet (fail)
  go_wp2
  go_ret2
  exact ⟨⟨d, HD.out, by rw [hZ.out, hV.out]; rfl⟩, below_drewN HB.out _⟩
end Go.Proofs.Qxb6600908a
