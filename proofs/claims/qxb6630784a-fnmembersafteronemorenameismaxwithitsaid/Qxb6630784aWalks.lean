/-
  The small callees of the two laws on Members, walked; what came in, read as lists of numbers.
-/
import Derived.Test.Qxb6630784aRows
import Derived.Test.Qxb6630784aLaws
import Derived.WalkKit
import Derived.WalkSmall
import Derived.WalkLawsBesides
import Derived.WalkSpells
import Derived.Deep.QuietTactic
import Derived.BigQuiet
import Derived.Deep.LoopGhost
namespace Go.Proofs.Qxb6630784a
open Go.RowKit

/-- The numbers of an int slice, as cells. -/
def ints (zs : List Int) : List Value := zs.map (Value.int .i64)
theorem ints_len (zs : List Int) : (ints zs).length = zs.length := by simp [ints]
theorem ints_at {zs : List Int} {i : Nat} (h : i < zs.length) : (ints zs)[i]? = some (.int .i64 (zs[i]?.getD 0)) := by simp [ints, h]
theorem ints_one (zs : List Int) : ∀ u ∈ ints zs, u.oneCell' = true := ints_oneCell _ _

/-- A slice of int slices, read whole. -/
def Items (w : World) (ao : Option Addr) (n c : Nat) (zss : List (List Int)) : Prop :=
  ∃ vs : List Value, Rd w ao n c vs ∧ zss.length = n ∧ ∀ (i : Nat) (u : Value), vs[i]? = some u → ∃ a l c', u = Value.slice a l c' ∧ Rd w a l c' (ints (zss[i]?.getD []))

theorem Items.carry {w w' : World} {ao : Option Addr} {n c : Nat} {zss : List (List Int)} (h : Items w ao n c zss) (hb : Below w.heap.size w w') : Items w' ao n c zss := by
  obtain ⟨vs, hr, hl, hi⟩ := h
  refine ⟨vs, hr.carry hb, hl, fun i u hu => ?_⟩
  obtain ⟨a, l, c', rfl, h'⟩ := hi i u hu
  exact ⟨a, l, c', rfl, h'.carry hb⟩

theorem Items.len {w : World} {ao : Option Addr} {n c : Nat} {zss : List (List Int)} (h : Items w ao n c zss) : zss.length = n := by
  obtain ⟨_, _, hl, _⟩ := h
  exact hl

theorem Items.at {w : World} {ao : Option Addr} {n c : Nat} {zss : List (List Int)} (h : Items w ao n c zss) {k : Nat} (hk : k < n) :
    ∃ b off a l c', ao = some ⟨b, off, none⟩ ∧ b < w.heap.size ∧ w.cell? ⟨b, off + k, none⟩ = some (.slice a l c') ∧ Rd w a l c' (ints (zss[k]?.getD [])) ∧ (zss[k]?.getD []).length = l ∧ l ≤ maxLen := by
  obtain ⟨vs, hr, hl, hi⟩ := h
  obtain ⟨b, off, rfl, hb, hc⟩ := hr.at (by omega)
  have hv : vs[k]? = some (vs[k]'(by rw [hr.len]; exact hk)) := List.getElem?_eq_getElem _
  obtain ⟨a, l, c', hu, h'⟩ := hi k _ hv
  refine ⟨b, off, a, l, c', rfl, hb, (hc k _ hv).trans (by rw [hu]), h', ?_, Nat.le_trans h'.le h'.max⟩
  have := h'.len
  rwa [ints_len] at this

theorem Items.take {w : World} {ao : Option Addr} {n c : Nat} {zss : List (List Int)} (h : Items w ao n c zss) {k : Nat} (hk : k ≤ n) : Items w ao k c (zss.take k) := by
  obtain ⟨vs, hr, hl, hi⟩ := h
  refine ⟨vs.take k, hr.take hk, by simp; omega, fun i u hu => ?_⟩
  rw [List.getElem?_take] at hu
  split at hu
  · rename_i hik
    obtain ⟨a, l, c', rfl, hr'⟩ := hi i u hu
    refine ⟨a, l, c', rfl, ?_⟩
    rw [List.getElem?_take, if_pos hik]
    exact hr'
  · cases hu

theorem Items.drop {w : World} {ao ao' : Option Addr} {n c : Nat} {zss : List (List Int)} (h : Items w ao n c zss) {k : Nat} (hk : k ≤ n) (h' : ao' = if c = k then ao else ao.map (fun x => x.add k)) : Items w ao' (n - k) (c - k) (zss.drop k) := by
  obtain ⟨vs, hr, hl, hi⟩ := h
  refine ⟨vs.drop k, hr.dropG hk h', by simp; omega, fun i u hu => ?_⟩
  rw [List.getElem?_drop] at hu
  obtain ⟨a, l, c', rfl, hr'⟩ := hi (k + i) u hu
  refine ⟨a, l, c', rfl, ?_⟩
  rw [List.getElem?_drop]
  exact hr'

/-- It answers a bool; where it says b0, p holds. -/
def Answers (b0 : Bool) (p : Prop) (e : Ending) : Prop := ∃ b, e = .returned (.bool b) ∧ (b = b0 → p)
theorem answers_other {b b0 : Bool} (p : Prop) (h : b ≠ b0) : Answers b0 p (.returned (.bool b)) := ⟨b, rfl, fun e => absurd e h⟩
theorem answers_it {b : Bool} {p : Prop} (h : p) : Answers b p (.returned (.bool b)) := ⟨b, rfl, fun _ => h⟩

/-- All that came in is short. -/
structure Small (zss : List (List Int)) (n m : Nat) : Prop where
  ss : n ≤ 131072
  cs : m ≤ 43690
  each : ∀ i, i < m → (zss[i]?.getD []).length ≤ 131072
/-- The first k lists are short. -/
def Short (zss : List (List Int)) (k : Nat) : Prop := ∀ i, i < k → (zss[i]?.getD []).length ≤ 131072
theorem short_next {zss : List (List Int)} {k : Nat} (h : Short zss k) (hk : (zss[k]?.getD []).length ≤ 131072) : Short zss (k + 1) := fun i hi => by
  by_cases e : i = k
  · rw [e]; exact hk
  · exact h i (by omega)

set_option maxHeartbeats 800000 in
/-- zzMembersTooBig: it answers, and touches nothing; where it says no, all is short. -/
theorem big_any (sa : Option Addr) (n cs : Nat) (ao : Option Addr) (m c : Nat) (zss : List (List Int)) (w : World) (h : Items w ao m c zss) (hn : n ≤ maxLen) (hm : m ≤ maxLen) :
    Calls Try.prog 6 #[.slice sa n cs, .slice ao m c] w fun e w' => Answers false (Small zss n m) e ∧ w' = w := by
  unfold maxLen at hn hm
  by_cases h1 : 131072 < n
  · have h1' : (131072 : Int) < (n : Int) := by omega
    go_enter Try.func6, Try.ntmps6
    go_wp2
    go_ret
    exact ⟨answers_other _ (by decide), rfl⟩
  by_cases h2 : 43690 < m
  · have h2' : (43690 : Int) < (m : Int) := by omega
    have h1' : ¬ (131072 : Int) < (n : Int) := by omega
    go_enter Try.func6, Try.ntmps6
    go_wp2
    go_ret
    exact ⟨answers_other _ (by decide), rfl⟩
  have hd1 : decide ((131072 : Int) < (n : Int)) = false := decide_eq_false (by omega)
  have hd2 : decide ((43690 : Int) < (m : Int)) = false := decide_eq_false (by omega)
  have hn2 : n ≤ 131072 := by omega
  have hm2 : m ≤ 43690 := by omega
  by_cases h3 : (1048576 : Int) < 8 * (n : Int) + 24 * (m : Int)
  · go_enter Try.func6, Try.ntmps6
    go_wp2
    go_ret
    exact ⟨answers_other _ (by decide), rfl⟩
  have hd3 : decide ((1048576 : Int) < 8 * (n : Int) + 24 * (m : Int)) = false := decide_eq_false (by omega)
  clear h1 h2 hn hm
  go_enter Try.func6, Try.ntmps6
  go_wp2
  go_loop [5, 6] (fun z i => ∃ (k : Nat) (s : Int), k ≤ m ∧ i = .int .i64 k ∧ z = .int .i64 s ∧ 0 ≤ s ∧ s ≤ 1048576 ∧ Short zss k) (fun _ i => m - (intOf i).toNat)
  case atStart => exact ⟨0, _, Nat.zero_le _, rfl, rfl, by omega, by omega, fun i hi => by omega⟩
  case round =>
    obtain ⟨k, s, hk, rfl, rfl, hs0, hs1, hsh⟩ := hrel
    by_cases hlt : k < m
    · obtain ⟨b, off, a, l, c', rfl, hb, hc, hr, hl, hlm⟩ := h.at hlt
      unfold maxLen at hlm
      have HL : Hid ((zss[k]?.getD []).length = l) := hl
      clear hr hl h
      have hlt' : (k : Int) < (m : Int) := by omega
      by_cases hl1 : 131072 < l
      · have hl1' : (131072 : Int) < (l : Int) := by omega
        go_wp2
        go_ret
        exact ⟨answers_other _ (by decide), rfl⟩
      · have hl1' : ¬ (131072 : Int) < (l : Int) := by omega
        have hl2 : (l : Int) ≤ 131072 := by omega
        clear hl1 hlm
        by_cases hs2 : (1048576 : Int) < s + 8 * (l : Int)
        · go_wp2
          go_ret
          exact ⟨answers_other _ (by decide), rfl⟩
        · go_wp2
          go_round
          case rel => exact ⟨k + 1, s + 8 * l, by omega, by go_num, rfl, by omega, by omega, short_next hsh (by rw [HL.out]; omega)⟩
          case measure => simp [intOf]; omega
    · have hkm : k = m := by omega
      subst hkm
      have HSH : Hid (Short zss k) := hsh
      clear hsh
      go_wp2
      go_ret
      exact ⟨answers_it ⟨hn2, hm2, HSH.out⟩, rfl⟩

theorem max_any (a b : Int) (w : World) : Calls Try.prog 9 #[.int .i64 a, .int .i64 b] w fun e w' => e = .returned (.int .i64 (max a b)) ∧ w' = w := by
  by_cases h : b < a
  · have e : max a b = a := by omega
    rw [e]
    clear e
    go_enter Try.func9, Try.ntmps9
    go_wp2
    go_ret
    exact ⟨rfl, rfl⟩
  · have e : max a b = b := by omega
    rw [e]
    clear e
    go_enter Try.func9, Try.ntmps9
    go_wp2
    go_ret
    exact ⟨rfl, rfl⟩

end Go.Proofs.Qxb6630784a
