/-
  The callees of the two laws on Spend: what each does, walked once.
-/
import Derived.Test.Qxb6630719aRows
import Derived.WalkKit
import Derived.WalkSmall
import Derived.WalkLawsBesides
import Derived.Lib.RuneCount
import Derived.Laws.RangeString
import Derived.Laws.RangeAny
namespace Go.Proofs.Qxb6630719a
open Go.RowKit

/-- The characters of a string. -/
def cnt (s : ByteArray) : Nat := Lib.runeCount s
theorem cnt_le (s : ByteArray) : cnt s ≤ s.size := Lib.runeCount_le s

theorem iter_below (w : World) (s : ByteArray) (pos : Nat) : w.grownBy (w.iter s pos) none := World.grownBy_alloc w _ none

set_option maxHeartbeats 1000000 in
theorem count_any (s : ByteArray) (w : World) (hs : s.size ≤ 1048576) :
    Calls Try.prog 6 #[.string s] w fun e w' => e = .returned (.int .i64 (cnt s)) ∧ w.grownBy w' none := by
  go_enter Try.func6, Try.ntmps6
  go_wp2
  go_loopw [3] (fun n w' => ∃ (pos b acc : Nat), w' = w.iter s pos ∧ n = .int .i64 acc ∧ acc + Lib.runeCountFrom s b pos = Lib.runeCount s ∧ s.size ≤ pos + b ∧ acc ≤ pos) (fun _ w' => s.size - w'.iterPos w.heap.size)
  case atStart => exact ⟨0, s.size, 0, rfl, rfl, by simp [Lib.runeCount], by omega, Nat.le_refl _⟩
  case round =>
    obtain ⟨pos, b, acc, rfl, rfl, hc, hb, ha⟩ := hrel
    by_cases hp : pos < s.size
    · have hnx : ∀ ty, (Instr.next (.pointer (some ⟨w.heap.size, 0, none⟩)) true ty).run Try.prog (w.iter s pos) = _ := fun ty => run_next_any w s pos ty hp
      have hwd := Lib.decode_width_pos s pos hp
      have HC : Hid (acc + Lib.runeCountFrom s b pos = Lib.runeCount s) := hc
      clear hc
      go_wp2
      go_roundw
      case rel =>
        have hc := HC.out
        cases b with
        | zero => omega
        | succ b =>
          refine ⟨pos + (Utf8.decode s pos).2, b, acc + 1, rfl, by go_num, ?_, by omega, by omega⟩
          rw [← hc]
          simp [Lib.runeCountFrom, hp]
          omega
      case measure =>
        simp
        omega
    · have hnx : ∀ ty, (Instr.next (.pointer (some ⟨w.heap.size, 0, none⟩)) true ty).run Try.prog (w.iter s pos) = _ := fun ty => run_next_end w s pos ty hp
      rw [Lib.runeCountFrom_end s b pos hp, Nat.add_zero] at hc
      have HC : Hid (acc = cnt s) := hc
      clear hc
      go_wp2
      go_ret
      exact ⟨by rw [← HC.out]; rfl, iter_below _ _ _⟩

set_option maxHeartbeats 1000000 in
theorem runes_any (s : ByteArray) (w : World) (hs : s.size ≤ 1048576) :
    Calls Try.prog 13 #[.string s] w fun e w' => e = .returned (.int .i64 (cnt s)) ∧ w.grownBy w' none := by
  go_enter Try.func13, Try.ntmps13
  go_wp2
  go_loopw [2] (fun n w' => ∃ (pos b acc : Nat), w' = w.iter s pos ∧ n = .int .i64 acc ∧ acc + Lib.runeCountFrom s b pos = Lib.runeCount s ∧ s.size ≤ pos + b ∧ acc ≤ pos) (fun _ w' => s.size - w'.iterPos w.heap.size)
  case atStart => exact ⟨0, s.size, 0, rfl, rfl, by simp [Lib.runeCount], by omega, Nat.le_refl _⟩
  case round =>
    obtain ⟨pos, b, acc, rfl, rfl, hc, hb, ha⟩ := hrel
    by_cases hp : pos < s.size
    · have hnx : ∀ ty, (Instr.next (.pointer (some ⟨w.heap.size, 0, none⟩)) true ty).run Try.prog (w.iter s pos) = _ := fun ty => run_next_any w s pos ty hp
      have hwd := Lib.decode_width_pos s pos hp
      have HC : Hid (acc + Lib.runeCountFrom s b pos = Lib.runeCount s) := hc
      clear hc
      go_wp2
      go_roundw
      case rel =>
        have hc := HC.out
        cases b with
        | zero => omega
        | succ b =>
          refine ⟨pos + (Utf8.decode s pos).2, b, acc + 1, rfl, by go_num, ?_, by omega, by omega⟩
          rw [← hc]
          simp [Lib.runeCountFrom, hp]
          omega
      case measure =>
        simp
        omega
    · have hnx : ∀ ty, (Instr.next (.pointer (some ⟨w.heap.size, 0, none⟩)) true ty).run Try.prog (w.iter s pos) = _ := fun ty => run_next_end w s pos ty hp
      rw [Lib.runeCountFrom_end s b pos hp, Nat.add_zero] at hc
      have HC : Hid (acc = cnt s) := hc
      clear hc
      go_wp2
      go_ret
      exact ⟨by rw [← HC.out]; rfl, iter_below _ _ _⟩

/-- fitsIn says yes. -/
theorem fits_yes (n s rem : Int) (w : World) (hn : 0 ≤ n) (hn2 : n ≤ 1048576) (hs : 1 ≤ s) (hs2 : s ≤ 9223372036854775807) (hr : 0 ≤ rem) (hr2 : rem ≤ 19660800) (h : n * s ≤ rem) :
    Calls Try.prog 7 #[.int .i64 n, .int .i64 s, .int .i64 rem] w fun e w' => e = .returned (.bool true) ∧ w' = w := by
  by_cases h0 : n = 0
  · subst h0
    go_enter Try.func7, Try.ntmps7
    go_wp2
    go_ret
    exact ⟨rfl, rfl⟩
  · have h1 : (n == 0) = false := beq_eq_false_iff_ne.2 h0
    have h2 : s ≤ rem := by have := Int.mul_le_mul_of_nonneg_right (show (1 : Int) ≤ n by omega) (show 0 ≤ s by omega); omega
    have h3 : ¬ rem < s := by omega
    have h4 : 0 ≤ n * s := Int.mul_nonneg hn (by omega)
    clear h0
    go_enter Try.func7, Try.ntmps7
    go_wp2
    go_ret
    exact ⟨by simp, rfl⟩

/-- fitsIn says no. -/
theorem fits_no (n s rem : Int) (w : World) (hn : 0 ≤ n) (hn2 : n ≤ 1048576) (hs : 1 ≤ s) (hs2 : s ≤ 9223372036854775807) (hr : 0 ≤ rem) (hr2 : rem ≤ 19660800) (h : rem < n * s) :
    Calls Try.prog 7 #[.int .i64 n, .int .i64 s, .int .i64 rem] w fun e w' => e = .returned (.bool false) ∧ w' = w := by
  have h0 : n ≠ 0 := fun e => by subst e; simp at h; omega
  have h1 : (n == 0) = false := beq_eq_false_iff_ne.2 h0
  clear h0
  by_cases h2 : rem < s
  · go_enter Try.func7, Try.ntmps7
    go_wp2
    go_ret
    exact ⟨rfl, rfl⟩
  · have h4 : 0 ≤ n * s := Int.mul_nonneg hn (by omega)
    have h5 : n * s ≤ 1048576 * 19660800 := Int.mul_le_mul hn2 (by omega) (by omega) (by omega)
    go_enter Try.func7, Try.ntmps7
    go_wp2
    go_ret
    exact ⟨by simp; omega, rfl⟩

/-- A budget in memory: block g holds (spent, overspent). -/
structure Bud (w : World) (g : Nat) (s : Int) (o : Bool) : Prop where
  spent : w.cell? ⟨g, 0, none⟩ = some (.int .i64 s)
  over : w.cell? ⟨g, 1, none⟩ = some (.bool o)
  free : ∀ j, w.frozen? ⟨g, j, none⟩ = false

theorem Bud.lt {w : World} {g : Nat} {s : Int} {o : Bool} (h : Bud w g s o) : g < w.heap.size := World.block_lt_of_cell? _ _ h.spent

theorem Bud.keep {w w' : World} {g : Nat} {s : Int} {o : Bool} {row : Option Nat} (h : Bud w g s o) (hg : w.grownBy w' row) (hne : some g ≠ row) : Bud w' g s o := by
  have hb := hg.block g h.lt hne
  exact ⟨(World.cell?_of_block (w := w) (a := ⟨g, 0, none⟩) hb).trans h.spent, (World.cell?_of_block (w := w) (a := ⟨g, 1, none⟩) hb).trans h.over, fun j => (World.frozen?_of_block (w := w) (a := ⟨g, j, none⟩) hb).trans (h.free j)⟩

theorem grown_trans {a b c : World} {row : Option Nat} (h : a.grownBy b row) (k : b.grownBy c row) : a.grownBy c row :=
  ⟨k.os.trans h.os, k.tape.trans h.tape, k.output.trans h.output, Nat.le_trans h.size k.size, fun i hi hne => (k.block i (Nat.lt_of_lt_of_le hi h.size) hne).trans (h.block i hi hne)⟩
theorem grown_any {a b : World} (h : a.grownBy b none) (row : Option Nat) : a.grownBy b row :=
  ⟨h.os, h.tape, h.output, h.size, fun i hi _ => h.block i hi (by simp)⟩
theorem grown_set (w : World) (g j : Nat) (v : Value) : w.grownBy (w.setCell ⟨g, j, none⟩ v) (some g) :=
  ⟨rfl, rfl, rfl, by simp, fun k _ hk => heap_setCell_other w ⟨g, j, none⟩ k v (fun e => hk (by simp [e]))⟩

theorem Bud.setSpent {w : World} {g : Nat} {s : Int} {o : Bool} (h : Bud w g s o) (s' : Int) : Bud (w.setCell ⟨g, 0, none⟩ (.int .i64 s')) g s' o := by
  exact ⟨World.cell?_setCell_same _ _ _ h.spent, (World.cell?_setCell_other _ _ _ _ (by simp)).trans h.over, fun j => by simp [h.free j]⟩
theorem Bud.setOver {w : World} {g : Nat} {s : Int} {o : Bool} (h : Bud w g s o) (o' : Bool) : Bud (w.setCell ⟨g, 1, none⟩ (.bool o')) g s o' := by
  exact ⟨(World.cell?_setCell_other _ _ _ _ (by simp)).trans h.spent, World.cell?_setCell_same _ _ _ h.over, fun j => by simp [h.free j]⟩

/-- ZZnewBudget: a new block. -/
theorem new_any (s : Int) (o : Bool) (w : World) :
    Calls Try.prog 8 #[.int .i64 s, .bool o] w fun e w' => e = .returned (.pointer (some ⟨w.heap.size, 0, none⟩)) ∧ Bud w' w.heap.size s o ∧ w.grownBy w' none := by
  go_enter Try.func8, Try.ntmps8
  go_wp2
  go_ret
  exact ⟨rfl, ⟨by simp, by simp, fun j => by simp⟩, World.grownBy_alloc w _ none⟩

theorem spent_any (g : Nat) (s : Int) (o : Bool) (w : World) (h : Bud w g s o) :
    Calls Try.prog 11 #[.pointer (some ⟨g, 0, none⟩)] w fun e w' => e = .returned (.int .i64 s) ∧ w' = w := by
  have h1 := h.spent
  go_enter Try.func11, Try.ntmps11
  go_wp2
  go_ret
  exact ⟨rfl, rfl⟩

theorem over_any (g : Nat) (s : Int) (o : Bool) (w : World) (h : Bud w g s o) :
    Calls Try.prog 10 #[.pointer (some ⟨g, 0, none⟩)] w fun e w' => e = .returned (.bool o) ∧ w' = w := by
  have h1 := h.over
  go_enter Try.func10, Try.ntmps10
  go_wp2
  go_ret
  exact ⟨rfl, rfl⟩

/-- Spend: there is that much left. -/
theorem spend_yes (g : Nat) (s : Int) (o : Bool) (st : Int) (t : ByteArray) (w : World) (h : Bud w g s o) (hs0 : 0 ≤ s) (hs1 : s ≤ 19660800) (h1 : 1 ≤ st) (h2 : st ≤ 9223372036854775807) (ht : t.size ≤ 1048576)
    (hy : (cnt t : Int) * st ≤ 19660800 - s) :
    Calls Try.prog 9 #[.pointer (some ⟨g, 0, none⟩), .int .i64 st, .string t] w fun e w' => e = .returned (.bool true) ∧ Bud w' g (s + (cnt t : Int) * st) o ∧ w.grownBy w' (some g) := by
  have hq : ¬ (19660800 - s) / st < (cnt t : Int) := by
    have := (Int.le_ediv_iff_mul_le (show 0 < st by omega)).2 hy
    omega
  have hc := cnt_le t
  have hp : 0 ≤ (cnt t : Int) * st := Int.mul_nonneg (by omega) (by omega)
  go_enter Try.func9, Try.ntmps9
  go_wp2_with fail
  refine (runes_any t w ht).mono ?_
  rintro e w1 ⟨rfl, hg1⟩
  have hb := h.keep hg1 (by simp)
  have c0 := hb.spent
  have c1 := hb.over
  have f0 := hb.free 0
  go_wp2
  go_ret
  exact ⟨rfl, hb.setSpent _, grown_trans (grown_any hg1 _) (grown_set _ _ _ _)⟩

/-- Spend: there is less left. -/
theorem spend_no (g : Nat) (s : Int) (o : Bool) (st : Int) (t : ByteArray) (w : World) (h : Bud w g s o) (hs0 : 0 ≤ s) (hs1 : s ≤ 19660800) (h1 : 1 ≤ st) (h2 : st ≤ 9223372036854775807) (ht : t.size ≤ 1048576)
    (hy : 19660800 - s < (cnt t : Int) * st) :
    Calls Try.prog 9 #[.pointer (some ⟨g, 0, none⟩), .int .i64 st, .string t] w fun e w' => e = .returned (.bool false) ∧ Bud w' g s true ∧ w.grownBy w' (some g) := by
  have hq : (19660800 - s) / st < (cnt t : Int) := Int.ediv_lt_of_lt_mul (by omega) hy
  have hc := cnt_le t
  go_enter Try.func9, Try.ntmps9
  go_wp2_with fail
  refine (runes_any t w ht).mono ?_
  rintro e w1 ⟨rfl, hg1⟩
  have hb := h.keep hg1 (by simp)
  have c0 := hb.spent
  have c1 := hb.over
  have f0 := hb.free 1
  go_wp2
  go_ret
  exact ⟨rfl, hb.setOver _, grown_trans (grown_any hg1 _) (grown_set _ _ _ _)⟩

theorem bytes1 (a0 : Int) (a1 : Bool) (a2 a3 : Int) (t : ByteArray) (w : World) (ht : t.size ≤ maxLen) :
    Calls Try.prog 5 #[.int .i64 a0, .bool a1, .int .i64 a2, .int .i64 a3, .string t] w fun e w' => e = .returned (.bool (decide (t.size ≤ 1048576))) ∧ w' = w := by
  unfold maxLen at ht
  by_cases h : t.size ≤ 1048576
  · have h1 : (t.size : Int) ≤ 1048576 := by omega
    have h2 : decide (t.size ≤ 1048576) = true := decide_eq_true h
    rw [h2]
    clear h2
    go_enter Try.func5, Try.ntmps5
    go_wp2
    go_ret
    exact ⟨rfl, rfl⟩
  · have h1 : (1048576 : Int) < t.size := by omega
    have h2 : decide (t.size ≤ 1048576) = false := decide_eq_false h
    rw [h2]
    clear h2
    go_enter Try.func5, Try.ntmps5
    go_wp2
    go_ret
    exact ⟨rfl, rfl⟩

theorem bytes2 (a0 : Int) (a1 : Bool) (a2 : Int) (a b : ByteArray) (w : World) (ha : a.size ≤ maxLen) (hb : b.size ≤ maxLen) :
    Calls Try.prog 12 #[.int .i64 a0, .bool a1, .int .i64 a2, .string a, .string b] w fun e w' => e = .returned (.bool (decide (a.size + b.size ≤ 1048576))) ∧ w' = w := by
  unfold maxLen at ha hb
  by_cases h : a.size + b.size ≤ 1048576
  · have h1 : (a.size : Int) + b.size ≤ 1048576 := by omega
    have h2 : decide (a.size + b.size ≤ 1048576) = true := decide_eq_true h
    rw [h2]
    clear h2
    go_enter Try.func12, Try.ntmps12
    go_wp2
    go_ret
    exact ⟨rfl, rfl⟩
  · have h2 : decide (a.size + b.size ≤ 1048576) = false := decide_eq_false h
    rw [h2]
    clear h2
    by_cases h3 : (1048576 : Int) < a.size
    · go_enter Try.func12, Try.ntmps12
      go_wp2
      go_ret
      exact ⟨rfl, rfl⟩
    · by_cases h4 : (1048576 : Int) < b.size
      · go_enter Try.func12, Try.ntmps12
        go_wp2
        go_ret
        exact ⟨rfl, rfl⟩
      · have h5 : (1048576 : Int) < (a.size : Int) + b.size := by omega
        go_enter Try.func12, Try.ntmps12
        go_wp2
        go_ret
        exact ⟨rfl, rfl⟩

end Go.Proofs.Qxb6630719a
