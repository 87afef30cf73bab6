/-
  THE WALK of appendEscaped.
-/
import Derived.Test.Qxb6600908aWalkB
import Derived.OwnWalk
import Derived.Room.AppendFits
import Derived.Laws.IdiomStrings
import Derived.Deep.OwnRows
namespace Go.Proofs.Qxb6600908a
open Go.ChangeShapes Go.WideShapes Go.ChangeAt Go.RowKit

def cellsU8 (l : List UInt8) : List Value := l.map fun b => Value.int .u8 b.toNat
/-- The buffer, so far. -/
def Buf (w : World) (B g T n : Nat) (l : List UInt8) : Prop := n = l.length ∧ w.ownsRow B 5 1 (.slice (some ⟨g, 0, none⟩) n T) n (cellsU8 l)
theorem Buf.push {w w1 : World} {B g T n : Nat} {l : List UInt8} (h : Buf w B g T n l) (x : UInt8) (ho : w1.ownsRow B 5 1 (.slice (some ⟨g, 0, none⟩) (n + 1) T) (n + 1) (cellsU8 l ++ [.int .u8 x.toNat])) : Buf w1 B g T (n + 1) (l ++ [x]) :=
  ⟨by simp [h.1], by simpa [cellsU8] using ho⟩
theorem Buf.base {w : World} {B g T n : Nat} {l : List UInt8} (h : Buf w B g T n l) : B ≤ g ∧ g < w.heap.size := by
  rcases h.2.2 with ⟨h1, _⟩ | ⟨g', cap, cur, h1, h2, h3, _⟩
  · cases h1
  · cases h1
    refine ⟨h2, ?_⟩
    cases hlt : decide (g < w.heap.size) with
    | true => exact of_decide_eq_true hlt
    | false =>
      have := of_decide_eq_false hlt
      rw [Array.getElem?_eq_none (by omega)] at h3
      cases h3
theorem one_new (w : World) (v : Value) (t : TypeId) : ∀ j u, ([v] : List Value)[j]? = some u → (w.alloc (.cells #[v] t)).cell? ((⟨w.heap.size, 0, none⟩ : Addr).add j) = some u := by
  intro j u h
  match j, h with
  | 0, h => simp at h; subst h; simp [Addr.add]
  | j + 1, h => simp at h
theorem Buf.one {w0 w w1 : World} {B g T n : Nat} {l : List UInt8} {o : Obj} (h : Buf w B g T n l) (hB : Below B w0 w) (x : UInt8) (ho : w1.ownsRow B 5 1 (.slice (some ⟨g, 0, none⟩) (n + 1) T) (n + 1) (cellsU8 l ++ [.int .u8 x.toNat])) (hg : (w.alloc o).grownBy w1 (some g)) :
    Buf w1 B g T (n + 1) (l ++ [x]) ∧ Below B w0 w1 := by
  have hb := h.base
  exact ⟨h.push x ho, (hB.alloc (by omega) o).grown hg (by simp; omega) (fun k hk => by cases hk; exact hb.1)⟩
theorem Buf.str {w0 w w1 : World} {B g T n : Nat} {l : List UInt8} (h : Buf w B g T n l) (hB : Below B w0 w) (s : ByteArray) (ho : w1.ownsRow B 5 1 (.slice (some ⟨g, 0, none⟩) (n + s.size) T) (n + s.size) (cellsU8 l ++ Lib.strCells s)) (hg : w.grownBy w1 (Value.ownBlock (.slice (some ⟨g, 0, none⟩) n T))) :
    Buf w1 B g T (n + s.size) (l ++ s.data.toList) ∧ Below B w0 w1 := by
  have hb := h.base
  refine ⟨⟨by rw [List.length_append, ← h.1, Lib.size_eq], ?_⟩, hB.grown hg (by omega) (fun k hk => by cases hk; exact hb.1)⟩
  have : cellsU8 (l ++ s.data.toList) = cellsU8 l ++ Lib.strCells s := by simp [cellsU8, Lib.strCells]
  rw [this]; exact ho
theorem Buf.conv {w : World} {B g T n : Nat} {l : List UInt8} (h : Buf w B g T n l) : (convert 28 9 (.slice (some ⟨g, 0, none⟩) n T)).run Try.prog w = .ok (.string ⟨l.toArray⟩) w := by
  have hn := h.1
  subst hn
  refine run_convert_bytes_back w 28 9 5 ⟨g, 0, none⟩ T l Try.underlying28 Try.underlying5 Try.underlying9 ?_
  intro j hj
  have := h.2.cellAt j (by simpa using hj)
  have ha : (⟨g, 0, none⟩ : Addr).add j = ⟨g, j, none⟩ := by
    cases j with
    | zero => rfl
    | succ j => simp [Addr.add]
  rw [ha]
  simpa [cellsU8, hj] using this
theorem Try.info5' : (Try.prog.info? 5).map (fun i => (i.zero, i.size, i.bytes)) = some (some (.int .u8 0), 1, 1) := by kernel_rfl

theorem enc_take (s : ByteArray) (k : Nat) (h : k < s.size) : enc (s.data.toList.take (k + 1)) = enc (s.data.toList.take k) ++ enc [s[k]] := by
  have : s.data.toList.take (k + 1) = s.data.toList.take k ++ [s[k]] := by
    rw [List.take_add, drop_at s k h]; simp
  rw [this, enc_append]
theorem enc_take_le (s : ByteArray) (k : Nat) : (enc (s.data.toList.take k)).length ≤ (enc s.data.toList).length := by
  have := congrArg List.length (congrArg enc (List.take_append_drop k s.data.toList))
  rw [enc_append, List.length_append] at this
  omega

set_option maxHeartbeats 1000000 in
theorem append12 (s : ByteArray) (B g T n : Nat) (l : List UInt8) (w : World) (hs : s.size ≤ 1048576) (hb : Buf w B g T n l) (hroom : n + (enc s.data.toList).length ≤ T) :
    Calls Try.prog 12 #[.slice (some ⟨g, 0, none⟩) n T, .string s] w fun e w' => (∃ n', e = .returned (.slice (some ⟨g, 0, none⟩) n' T) ∧ Buf w' B g T n' (l ++ enc s.data.toList)) ∧ Below B w w' := by
  obtain ⟨i0, hi, hz0, hz1, hz2⟩ := info_parts Try.info5'
  clear hz0 hz2
  have HR : Hid (l.length + (enc s.data.toList).length ≤ T) := by have := hb.1; show _ ≤ _; omega
  have HB0 : Hid (Buf w B g T n l) := hb
  clear hroom hb
  go_enter Try.func12, Try.ntmps12
  go_wp2
  go_loopw [0, 5] (fun c i wr => ∃ k m : Nat, i = .int .i64 (k : Int) ∧ k ≤ s.size ∧ c = .slice (some ⟨g, 0, none⟩) m T ∧ Hid (Buf wr B g T m (l ++ enc (s.data.toList.take k))) ∧ Hid (Below B w wr)) (fun _ i _ => s.size - (intOf i).toNat)
  case atStart => exact ⟨0, n, rfl, Nat.zero_le _, rfl, by show Buf _ _ _ _ _ _; rw [List.take_zero, enc, List.append_nil]; exact HB0.out, Below.refl _ _⟩
  case round =>
    clear HB0
    obtain ⟨k, m, rfl, hk, rfl, HO, HB⟩ := hrel
    by_cases hlt : k < s.size
    · have hlt' : (k : Int) < (s.size : Int) := by omega
      obtain ⟨x, hx⟩ : ∃ x, s[k] = x := ⟨_, rfl⟩
      have HE : Hid (enc (s.data.toList.take (k + 1)) = enc (s.data.toList.take k) ++ enc [x]) := by show _ = _; rw [enc_take s k hlt, hx]
      have hle := enc_take_le s (k + 1)
      have hmlen := HO.out.1
      rw [List.length_append] at hmlen
      have hel := congrArg List.length HE.out
      rw [List.length_append] at hel
      have hgB := HO.out.base
      have HOW : Hid (∀ o, (wr.alloc o).ownsRow B 5 1 (.slice (some ⟨g, 0, none⟩) m T) m (cellsU8 (l ++ enc (s.data.toList.take k)))) := fun o => HO.out.2.alloc o
      have hBs : B ≤ wr.heap.size := by omega
      by_cases hc : x = 92 ∨ x = 34
      · have h2 : (enc [x]).length = 2 := by rw [enc, if_pos hc]; rfl
        have r1 : m + 1 ≤ T := by have := HR.out; omega
        have r2 : m + 1 + 1 ≤ T := by have := HR.out; omega
        have fin : Hid (∀ o w1 o' w2, w1.ownsRow B 5 1 (.slice (some ⟨g, 0, none⟩) (m + 1) T) (m + 1) (cellsU8 (l ++ enc (s.data.toList.take k)) ++ [.int .u8 92]) → (wr.alloc o).grownBy w1 (some g) → w2.ownsRow B 5 1 (.slice (some ⟨g, 0, none⟩) (m + 1 + 1) T) (m + 1 + 1) ((cellsU8 (l ++ enc (s.data.toList.take k)) ++ [.int .u8 92]) ++ [.int .u8 x.toNat]) → (w1.alloc o').grownBy w2 (some g) → Buf w2 B g T (m + 2) (l ++ enc (s.data.toList.take (k + 1))) ∧ Below B w w2) := by
          intro o w1 o' w2 h1 h2 h3 h4
          have b1 := HO.out.push 92 h1
          have b2 := b1.push x (by simpa [cellsU8] using h3)
          have be1 := (HB.out.alloc hBs o).grown h2 (by simp; omega) (fun k hk => by cases hk; exact hgB.1)
          have be2 := (be1.alloc (Nat.le_trans (Nat.le_of_lt (Nat.lt_of_le_of_lt hgB.1 b1.base.2)) (Nat.le_refl _)) o').grown h4 (by have := b1.base; simp; omega) (fun k hk => by cases hk; exact hgB.1)
          refine ⟨?_, be2⟩
          rw [HE.out, enc, if_pos hc]
          simpa [enc] using b2
        have hcase : (((x.toNat : Int) == 92) = true) ∨ (((x.toNat : Int) == 92) = false ∧ ((x.toNat : Int) == 34) = true) := by
          rcases hc with h | h
          · left; rw [h]; rfl
          · right; rw [h]; exact ⟨rfl, rfl⟩
        clear hel hmlen hle HE hc h2 HO HB
        rcases hcase with e1 | ⟨e1, e2⟩
        all_goals
          go_wp2_with (first | (at_builtin; refine wpList_append_fits _ rfl (.tmp 22) (.tmp 23) 28 rfl B 5 i0 1 Try.underlying28 hi hz1 g m T _ rfl (HOW.out _) ⟨wr.heap.size, 0, none⟩ 1 1 [.int .u8 92] rfl rfl (one_new _ _ _) (by intro u hu; simp at hu; subst hu; rfl) r1 ?_; intro w1 hown1 hgrow1) | (at_builtin; refine wpList_append_fits _ rfl (.tmp 25) (.tmp 29) 28 rfl B 5 i0 1 Try.underlying28 hi hz1 g (m + 1) T _ rfl (hown1.alloc _) ⟨w1.heap.size, 0, none⟩ 1 1 [.int .u8 x.toNat] rfl rfl (one_new _ _ _) (by intro u hu; simp at hu; subst hu; rfl) r2 ?_; intro w2 hown2 hgrow2))
          go_roundw
          case rel => exact ⟨k + 1, m + 2, by go_num, by omega, rfl, (fin.out _ _ _ _ hown1 hgrow1 hown2 hgrow2).1, (fin.out _ _ _ _ hown1 hgrow1 hown2 hgrow2).2⟩
          case measure => simp [intOf]; omega
      · have h2 : (enc [x]).length = 1 := by rw [enc, if_neg hc]; rfl
        have r1 : m + 1 ≤ T := by have := HR.out; omega
        have fin : Hid (∀ o w1, w1.ownsRow B 5 1 (.slice (some ⟨g, 0, none⟩) (m + 1) T) (m + 1) (cellsU8 (l ++ enc (s.data.toList.take k)) ++ [.int .u8 x.toNat]) → (wr.alloc o).grownBy w1 (some g) → Buf w1 B g T (m + 1) (l ++ enc (s.data.toList.take (k + 1))) ∧ Below B w w1) := by
          intro o w1 h1 h2
          have b1 := HO.out.push x h1
          have be1 := (HB.out.alloc hBs o).grown h2 (by simp; omega) (fun k hk => by cases hk; exact hgB.1)
          refine ⟨?_, be1⟩
          rw [HE.out, enc, if_neg hc]
          simpa [enc] using b1
        have e1 : ((x.toNat : Int) == 92) = false := bne_byte (fun h => hc (.inl h))
        have e2 : ((x.toNat : Int) == 34) = false := bne_byte (fun h => hc (.inr h))
        clear hel hmlen hle HE hc h2 HO HB
        go_wp2_with (at_builtin; refine wpList_append_fits _ rfl (.tmp 25) (.tmp 29) 28 rfl B 5 i0 1 Try.underlying28 hi hz1 g m T _ rfl (HOW.out _) ⟨wr.heap.size, 0, none⟩ 1 1 [.int .u8 x.toNat] rfl rfl (one_new _ _ _) (by intro u hu; simp at hu; subst hu; rfl) r1 ?_; intro w1 hown1 hgrow1)
        go_roundw
        case rel => exact ⟨k + 1, m + 1, by go_num, by omega, rfl, (fin.out _ _ hown1 hgrow1).1, (fin.out _ _ hown1 hgrow1).2⟩
        case measure => simp [intOf]; omega
    · have hlt' : ¬ (k : Int) < (s.size : Int) := by omega
      have HF : Hid (Buf wr B g T m (l ++ enc s.data.toList)) := by
        have := HO.out
        rw [List.take_of_length_le (by rw [← Lib.size_eq]; omega)] at this
        exact this
      clear HO
      go_wp2
      go_ret
      exact ⟨⟨m, rfl, HF.out⟩, HB.out⟩
end Go.Proofs.Qxb6600908a
