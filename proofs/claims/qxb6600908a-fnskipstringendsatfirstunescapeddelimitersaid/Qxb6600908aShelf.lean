/-
  THE SHELF's CONTRACTS OF strings.HasPrefix AND strings.Repeat AT THIS DUMP, in plain words (written by the shelf's tools lay-shelf and lay-plain).
-/
import Derived.Shelf.Strings.Builder1
import Derived.Shelf.Strings.Builder2
import Derived.Shelf.Strings.BuilderF
import Derived.Shelf.Strings.Prefix
import Derived.Shelf.Bits.Mul64
import Derived.Shelf.Strings.Repeat
import Derived.Test.Qxb6600908aProg
namespace Go.Proofs
open Go.Shelf
def Try.lays99_ren : Go.Shelf.Ren := ⟨fun | 99 => 19 | 206 => 23 | n => n, fun | 9 => 9 | 4 => 4 | 3 => 3 | n => n, fun | n => n⟩
theorem Try.lays99 : Go.Proofs.Lays.n99 Try.prog Try.lays99_ren := {
  mixed := by kernel_rfl
  f99 := Try.func19.trans (congrArg some (by kernel_rfl))
  f206 := Try.func23.trans (congrArg some (by kernel_rfl))
  t3 := Try.underlying3
  a3 := Try.isAgg3
  z3 := Try.sizeOf3
  v3 := Try.zeroValue3
  t4 := Try.underlying4
  a4 := Try.isAgg4
  z4 := Try.sizeOf4
  v4 := Try.zeroValue4
  t9 := Try.underlying9
  a9 := Try.isAgg9
  z9 := Try.sizeOf9
  v9 := Try.zeroValue9 }
open Go.RowKit Go.Lib in
/-- strings.HasPrefix, laid. -/
theorem Try.strings_HasPrefix (s p : ByteArray) (w : World) :
    Calls Try.prog 19 #[.string s, .string p] w fun e w' => e = .returned (.bool (Lib.hasPrefix s.data.toList p.data.toList)) ∧ w' = w := Any.strings_HasPrefix Try.lays99 s p w
def Try.lays105_ren : Go.Shelf.Ren := ⟨fun | 105 => 20 | 212 => 24 | 99 => 19 | 165 => 25 | 166 => 26 | 170 => 27 | 169 => 28 | 263 => 34 | 264 => 35 | 206 => 23 | 240 => 36 | 241 => 37 | 276 => 42 | 277 => 43 | n => n, fun | 9 => 9 | 3 => 3 | 4 => 4 | 20 => 20 | 0 => 0 | 46 => 45 | 109 => 46 | 5 => 5 | 72 => 50 | 76 => 54 | 51 => 64 | 146 => 65 | 53 => 67 | 148 => 68 | 70 => 48 | 37 => 28 | 75 => 53 | 127 => 70 | 164 => 74 | 80 => 57 | n => n, fun | n => n⟩
theorem Try.lays105 : Go.Proofs.Lays.n105 Try.prog Try.lays105_ren := {
  mixed := by kernel_rfl
  f99 := Try.func19.trans (congrArg some (by kernel_rfl))
  f105 := Try.func20.trans (congrArg some (by kernel_rfl))
  f165 := Try.func25.trans (congrArg some (by kernel_rfl))
  f166 := Try.func26.trans (congrArg some (by kernel_rfl))
  f169 := Try.func28.trans (congrArg some (by kernel_rfl))
  f170 := Try.func27.trans (congrArg some (by kernel_rfl))
  f206 := Try.func23.trans (congrArg some (by kernel_rfl))
  f212 := Try.func24.trans (congrArg some (by kernel_rfl))
  f240 := Try.func36.trans (congrArg some (by kernel_rfl))
  f241 := Try.func37.trans (congrArg some (by kernel_rfl))
  f263 := Try.func34.trans (congrArg some (by kernel_rfl))
  f264 := Try.func35.trans (congrArg some (by kernel_rfl))
  f276 := Try.func42.trans (congrArg some (by kernel_rfl))
  f277 := Try.func43.trans (congrArg some (by kernel_rfl))
  t0 := Try.underlying0
  a0 := Try.isAgg0
  z0 := Try.sizeOf0
  v0 := Try.zeroValue0
  t3 := Try.underlying3
  a3 := Try.isAgg3
  z3 := Try.sizeOf3
  v3 := Try.zeroValue3
  t4 := Try.underlying4
  a4 := Try.isAgg4
  z4 := Try.sizeOf4
  v4 := Try.zeroValue4
  t5 := Try.underlying5
  a5 := Try.isAgg5
  z5 := Try.sizeOf5
  v5 := Try.zeroValue5
  t9 := Try.underlying9
  a9 := Try.isAgg9
  z9 := Try.sizeOf9
  v9 := Try.zeroValue9
  t20 := Try.underlying20
  a20 := Try.isAgg20
  z20 := Try.sizeOf20
  v20 := Try.zeroValue20
  t37 := Try.underlying28
  a37 := Try.isAgg28
  z37 := Try.sizeOf28
  v37 := Try.zeroValue28
  t46 := Try.underlying45
  a46 := Try.isAgg45
  z46 := Try.sizeOf45
  v46 := Try.zeroValue45
  t51 := Try.underlying64
  a51 := Try.isAgg64
  z51 := Try.sizeOf64
  v51 := Try.zeroValue64
  t53 := Try.underlying67
  a53 := Try.isAgg67
  z53 := Try.sizeOf67
  v53 := Try.zeroValue67
  t70 := Try.underlying48
  a70 := Try.isAgg48
  z70 := Try.sizeOf48
  v70 := Try.zeroValue48
  t72 := Try.underlying50
  a72 := Try.isAgg50
  z72 := Try.sizeOf50
  v72 := Try.zeroValue50
  t75 := Try.underlying53
  a75 := Try.isAgg53
  z75 := Try.sizeOf53
  v75 := Try.zeroValue53
  t76 := Try.underlying54
  a76 := Try.isAgg54
  z76 := Try.sizeOf54
  v76 := Try.zeroValue54
  t109 := Try.underlying46
  a109 := Try.isAgg46
  z109 := Try.sizeOf46
  v109 := Try.zeroValue46
  t127 := Try.underlying70
  a127 := Try.isAgg70
  z127 := Try.sizeOf70
  v127 := Try.zeroValue70
  t146 := Try.underlying65
  a146 := Try.isAgg65
  z146 := Try.sizeOf65
  v146 := Try.zeroValue65
  t148 := Try.underlying68
  a148 := Try.isAgg68
  z148 := Try.sizeOf68
  v148 := Try.zeroValue68
  t164 := Try.underlying74
  a164 := Try.isAgg74
  z164 := Try.sizeOf74
  v164 := Try.zeroValue74 }
theorem Try.Builder_Extra_105 : Builder.Extra Try.prog Try.lays105_ren := {
  sizeBuilder := by kernel_rfl
  liesBuilder := by kernel_rfl
  t5 := Try.underlying5
  a5 := Try.isAgg5
  z5 := Try.sizeOf5
  v5 := Try.zeroValue5
  infoByte := by kernel_rfl
  cellsByte := by kernel_rfl
  sizeByte := by kernel_rfl
  neB5 := by decide }
open Go.RowKit Go.Lib in
/-- THE MAIN CASE: at least two copies of a string that is not empty. (LAID: no walk: one application.) -/
theorem Try.strings_Repeat_main (s : ByteArray) (c : Nat) (w : World) (hc2 : 2 ≤ c) (hc : c ≤ 9223372036854775807) (hlen : s.size * c ≤ 140737488355328) (h0 : 0 < s.size) :
    Calls Try.prog 20 #[.string s, .int .i64 c] w fun e w' => e = .returned (.string ⟨(Lib.repeatL s.data.toList c).toArray⟩) ∧ Below w.heap.size w w' := Any.strings_Repeat_main Try.lays105 Try.Builder_Extra_105 s c w hc2 hc hlen h0
end Go.Proofs
