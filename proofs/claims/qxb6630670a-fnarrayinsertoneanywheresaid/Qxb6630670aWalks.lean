import Derived.Test.Qxb6630670aRows
import Derived.Test.Qxb6630670aLaws
import Derived.WalkKit
import Derived.WalkSmall
import Derived.WalkLawsBesides
import Derived.Deep.QuietTactic
import Derived.BigQuiet
namespace Go.Proofs.Qxb6630670a
open Go.RowKit

/-- The numbers of a byte slice, as cells. -/
def bytes (zs : List Int) : List Value := zs.map (Value.int .u8)
theorem bytes_len (zs : List Int) : (bytes zs).length = zs.length := by simp [bytes]
theorem bytes_at {zs : List Int} {i : Nat} (h : i < zs.length) : (bytes zs)[i]? = some (.int .u8 (zs[i]?.getD 0)) := by simp [bytes, h]
theorem bytes_one (zs : List Int) : ∀ u ∈ bytes zs, u.oneCell' = true := ints_oneCell _ _

/-- zzEqBytesB1 of two slices that read alike: true. -/
theorem eq_same (a1 a2 : Option Addr) (n c1 c2 : Nat) (zs : List Int) (w : World) (h1 : Rd w a1 n c1 (bytes zs)) (h2 : Rd w a2 n c2 (bytes zs)) :
    Calls Try.prog 7 #[.slice a1 n c1, .slice a2 n c2] w fun e w' => e = .returned (.bool true) ∧ ∃ q, w' = w.drewN q := by
  have hm : n ≤ 9223372036854775807 := by have := h1.max; have := h1.le; unfold maxLen at *; omega
  have hl : zs.length = n := by have := h1.len; rwa [bytes_len] at this
  have HL : Hid (zs.length = n) := hl
  clear hl
  have hne : ((n : Int) != (n : Int)) = false := by simp
  go_enter Try.func7, Try.ntmps7
  go_wp2
  go_loopw [5] (fun i wr => ∃ k q : Nat, i = .int .i64 k ∧ k ≤ n ∧ wr = w.drewN q) (fun i _ => n - (intOf i).toNat)
  case atStart => exact ⟨0, 0, rfl, Nat.zero_le _, rfl⟩
  case round =>
    obtain ⟨k, q, rfl, hk, rfl⟩ := hrel
    by_cases hlt : k < n
    · obtain ⟨b1, o1, rfl, hb1, hc1⟩ := h1.at (by omega)
      obtain ⟨b2, o2, rfl, hb2, hc2⟩ := h2.at (by omega)
      have g1 := hc1 k _ (bytes_at (by rw [HL.out]; exact hlt))
      have g2 := hc2 k _ (bytes_at (by rw [HL.out]; exact hlt))
      clear hc1 hc2 h1 h2
      have hlt' : (k : Int) < (n : Int) := by omega
      go_wp2
      go_quiet (fail)
      go_wp2
      go_roundw
      case rel => exact ⟨k + 1, q + nq, by go_num, by omega, by simp⟩
      case measure => simp [intOf]; omega
    · go_wp2
      go_ret
      exact ⟨rfl, q, rfl⟩

/-- The items: a slice of byte slices, read whole. -/
def Items (w : World) (ao : Option Addr) (n c : Nat) (zss : List (List Int)) : Prop :=
  ∃ vs : List Value, Rd w ao n c vs ∧ zss.length = n ∧ ∀ (i : Nat) (u : Value), vs[i]? = some u → ∃ a l c', u = Value.slice a l c' ∧ Rd w a l c' (bytes (zss[i]?.getD []))

theorem Items.carry {w w' : World} {ao : Option Addr} {n c : Nat} {zss : List (List Int)} (h : Items w ao n c zss) (hb : Below w.heap.size w w') : Items w' ao n c zss := by
  obtain ⟨vs, hr, hl, hi⟩ := h
  refine ⟨vs, hr.carry hb, hl, fun i u hu => ?_⟩
  obtain ⟨a, l, c', rfl, h'⟩ := hi i u hu
  exact ⟨a, l, c', rfl, h'.carry hb⟩

theorem Items.at {w : World} {ao : Option Addr} {n c : Nat} {zss : List (List Int)} (h : Items w ao n c zss) {k : Nat} (hk : k < n) :
    ∃ b off a l c', ao = some ⟨b, off, none⟩ ∧ b < w.heap.size ∧ w.cell? ⟨b, off + k, none⟩ = some (.slice a l c') ∧ Rd w a l c' (bytes (zss[k]?.getD [])) ∧ (zss[k]?.getD []).length = l ∧ l ≤ maxLen := by
  obtain ⟨vs, hr, hl, hi⟩ := h
  obtain ⟨b, off, rfl, hb, hc⟩ := hr.at (by omega)
  have hv : vs[k]? = some (vs[k]'(by rw [hr.len]; exact hk)) := List.getElem?_eq_getElem _
  obtain ⟨a, l, c', hu, h'⟩ := hi k _ hv
  refine ⟨b, off, a, l, c', rfl, hb, (hc k _ hv).trans (by rw [hu]), h', ?_, Nat.le_trans h'.le h'.max⟩
  have := h'.len
  rwa [bytes_len] at this

/-- The items as a function of their place. -/
def zAt (zss : List (List Int)) (i : Nat) : List Int := zss[i]?.getD []

/-- The first n items are short. -/
def Short (zss : List (List Int)) (n : Nat) : Prop := ∀ i, i < n → (zAt zss i).length ≤ 1048576

theorem short_next {zss : List (List Int)} {k : Nat} (h : Short zss k) (hk : (zAt zss k).length ≤ 1048576) : Short zss (k + 1) := fun i hi => by
  by_cases e : i = k
  · rw [e]; exact hk
  · exact h i (by omega)

/-- It answers a bool; where it says yes, p holds. -/
def Answers (p : Prop) (e : Ending) : Prop := ∃ b, e = .returned (.bool b) ∧ (b = true → p)
theorem answers_no (p : Prop) : Answers p (.returned (.bool false)) := ⟨false, rfl, fun h => by cases h⟩
theorem answers_yes {p : Prop} (h : p) : Answers p (.returned (.bool true)) := ⟨true, rfl, fun _ => h⟩

/-- zzBytes_FnArrayJoinAtAnyCut: it answers, and touches nothing. -/
theorem bytesJoin_any (ao : Option Addr) (n c : Nat) (zss : List (List Int)) (k0 : Int) (w : World) (h : Items w ao n c zss) (hn : n ≤ maxLen) :
    Calls Try.prog 5 #[.slice ao n c, .int .i64 k0] w fun e w' => Answers (Short zss n) e ∧ w' = w := by
  unfold maxLen at hn
  by_cases hbig : 1048576 < n
  · have hbig' : (1048576 : Int) < (n : Int) := by omega
    go_enter Try.func5, Try.ntmps5
    go_wp2
    go_ret
    exact ⟨answers_no _, rfl⟩
  · have hd : decide ((1048576 : Int) < (n : Int)) = false := decide_eq_false (by omega)
    have hn2 : n ≤ 1048576 := by omega
    clear hbig hn
    go_enter Try.func5, Try.ntmps5
    go_wp2
    go_loop [5, 6] (fun z i => ∃ (k : Nat) (s : Int), k ≤ n ∧ i = .int .i64 k ∧ z = .int .i64 s ∧ 0 ≤ s ∧ s ≤ 1048576 ∧ Short zss k) (fun _ i => n - (intOf i).toNat)
    case atStart => exact ⟨0, n, Nat.zero_le _, rfl, rfl, by omega, by omega, fun i hi => by omega⟩
    case round =>
      obtain ⟨k, s, hk, rfl, rfl, hs0, hs1, hsh⟩ := hrel
      by_cases hlt : k < n
      · obtain ⟨b, off, a, l, c', rfl, hb, hc, hr, hl, hlm⟩ := h.at hlt
        unfold maxLen at hlm
        have HL : Hid ((zAt zss k).length = l) := hl
        clear hr hl h
        have hlt' : (k : Int) < (n : Int) := by omega
        by_cases hl1 : 1048576 < l
        · have hl1' : (1048576 : Int) < (l : Int) := by omega
          go_wp2
          go_ret
          exact ⟨answers_no _, rfl⟩
        · have hl1' : ¬ (1048576 : Int) < (l : Int) := by omega
          have hl2 : (l : Int) ≤ 1048576 := by omega
          clear hl1 hlm
          by_cases hs2 : (1048576 : Int) < s + (l : Int)
          · go_wp2
            go_ret
            exact ⟨answers_no _, rfl⟩
          · go_wp2
            go_round
            case rel => exact ⟨k + 1, s + l, by omega, by go_num, rfl, by omega, by omega, short_next hsh (by rw [HL.out]; omega)⟩
            case measure => simp [intOf]; omega
      · go_wp2
        go_ret
        exact ⟨answers_yes (by rwa [show k = n by omega] at hsh), rfl⟩

end Go.Proofs.Qxb6630670a
