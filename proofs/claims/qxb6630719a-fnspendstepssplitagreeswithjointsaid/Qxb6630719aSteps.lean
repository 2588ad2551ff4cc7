/-
  FnSpendStepsSplitAgreesWithJoint, walked.
-/
import Derived.Test.Qxb6630719aWalks
import Derived.OpenShut
namespace Go.Proofs.Qxb6630719a
open Go.RowKit

theorem no_row {B : Nat} : ∀ k, (none : Option Nat) = some k → B ≤ k := fun k h => by cases h
theorem some_row {B g : Nat} (h : B ≤ g) : ∀ k, some g = some k → B ≤ k := fun k e => by cases e; exact h

set_option maxHeartbeats 2000000 in
set_option maxRecDepth 100000 in
theorem steps_walk (a0 : Int) (a1 : Bool) (a2 : Int) (a3 : Int) (a4 : ByteArray) (w2 : (Lit.int .i64 a2).wf = true) (w3 : (Lit.int .i64 a3).wf = true) (w4 : a4.size ≤ maxLen) (w : World) :
    Calls Try.prog 3 #[.int .i64 a0, .bool a1, .int .i64 a2, .int .i64 a3, .string a4] w fun e w' => e = .returned (.bool true) ∧ Below w.heap.size w w' := by
  have b2 := bounds_i64 w2
  have b3 := bounds_i64 w3
  obtain ⟨b2a, b2b⟩ := b2
  obtain ⟨b3a, b3b⟩ := b3
  clear w2 w3
  go_enter Try.func3, Try.ntmps3
  go_wp2_with fail
  refine (bytes1 a0 a1 a2 a3 a4 w w4).mono ?_
  rintro e w0 ⟨rfl, rfl⟩
  by_cases hsz : a4.size ≤ 1048576
  case neg =>
    have hd : decide (a4.size ≤ 1048576) = false := decide_eq_false hsz
    rw [hd]
    go_wp2
    go_ret
    exact ⟨rfl, Below.refl _ _⟩
  have hd : decide (a4.size ≤ 1048576) = true := decide_eq_true hsz
  rw [hd]
  clear hd w4
  have hd0 : decide ((1048576 : Int) < (a4.size : Int)) = false := decide_eq_false (by omega)
  by_cases c1 : a0 < 0
  · go_wp2
    go_ret
    exact ⟨rfl, Below.refl _ _⟩
  by_cases c2 : 19660800 < a0
  · go_wp2
    go_ret
    exact ⟨rfl, Below.refl _ _⟩
  by_cases c3 : a2 < 1
  · go_wp2
    go_ret
    exact ⟨rfl, Below.refl _ _⟩
  by_cases c4 : a3 < 1
  · go_wp2
    go_ret
    exact ⟨rfl, Below.refl _ _⟩
  by_cases c5 : 9223372036854775807 - a2 < a3
  · go_wp2
    go_ret
    exact ⟨rfl, Below.refl _ _⟩
  have c1' : 0 ≤ a0 := by omega
  have c2' : a0 ≤ 19660800 := by omega
  have c3' : 1 ≤ a2 := by omega
  have c4' : 1 ≤ a3 := by omega
  have c5' : a2 + a3 ≤ 9223372036854775807 := by omega
  have cle := cnt_le a4
  have hmul : (cnt a4 : Int) * (a2 + a3) = (cnt a4 : Int) * a2 + (cnt a4 : Int) * a3 := Int.mul_add _ _ _
  have HMUL : Hid ((cnt a4 : Int) * (a2 + a3) = (cnt a4 : Int) * a2 + (cnt a4 : Int) * a3) := hmul
  have p1 : 0 ≤ (cnt a4 : Int) * a2 := Int.mul_nonneg (by omega) (by omega)
  have p2 : 0 ≤ (cnt a4 : Int) * a3 := Int.mul_nonneg (by omega) (by omega)
  clear hmul
  go_wp2_with fail
  refine (count_any a4 w0 hsz).mono ?_
  rintro e w1 ⟨rfl, hg1⟩
  have hB1 : Below w0.heap.size w0 w1 := (Below.refl _ _).grown hg1 (Nat.le_refl _) no_row
  have hs1 := hB1.size
  clear hg1
  by_cases hJ : (cnt a4 : Int) * (a2 + a3) ≤ 19660800 - a0
  · have hS := HMUL.out
    have h1 : (cnt a4 : Int) * a2 ≤ 19660800 - a0 := by omega
    have h2 : (cnt a4 : Int) * a3 ≤ 19660800 - (a0 + (cnt a4 : Int) * a2) := by omega
    have p3 : 0 ≤ (cnt a4 : Int) * (a2 + a3) := by omega
    clear hS
    go_wp2_with fail
    refine (fits_yes _ _ _ _ (by omega) (by omega) (by omega) (by omega) (by omega) (by omega) hJ).mono ?_
    rintro e w1' ⟨rfl, rfl⟩
    go_wp2_with fail
    refine (new_any a0 a1 _).mono ?_
    rintro e w2 ⟨rfl, hj2, hg2⟩
    have hB2 := hB1.grown hg2 hs1 no_row
    have hs2 := hB2.size
    have hlt := hj2.lt
    go_wp2_with fail
    refine (spend_yes _ a0 a1 (a2 + a3) a4 _ hj2 c1' c2' (by omega) c5' hsz hJ).mono ?_
    rintro e w3 ⟨rfl, hj3, hg3⟩
    have hB3 := hB2.grown hg3 hs2 (some_row hs1)
    have hs3 := hB3.size
    have hsz3 := hg3.size
    go_wp2_with fail
    refine (new_any a0 a1 _).mono ?_
    rintro e w4 ⟨rfl, hq4, hg4⟩
    have hB4 := hB3.grown hg4 hs3 no_row
    have hs4 := hB4.size
    have hj4 := hj3.keep hg4 (by simp)
    go_wp2_with fail
    refine (spend_yes _ a0 a1 a2 a4 _ hq4 c1' c2' c3' b2b hsz (by omega)).mono ?_
    rintro e w5 ⟨rfl, hq5, hg5⟩
    have hB5 := hB4.grown hg5 hs4 (some_row hs3)
    have hs5 := hB5.size
    have hj5 := hj4.keep hg5 (by simp; omega)
    go_wp2_with fail
    refine (spend_yes _ (a0 + (cnt a4 : Int) * a2) a1 a3 a4 _ hq5 (by omega) (by omega) c4' b3b hsz (by omega)).mono ?_
    rintro e w6 ⟨rfl, hq6, hg6⟩
    have hB6 := hB5.grown hg6 hs5 (some_row hs3)
    have hj6 := hj5.keep hg6 (by simp; omega)
    clear hj2 hj3 hj4 hj5 hq4 hq5 hg2 hg3 hg4 hg5 hg6 hB2 hB3 hB4 hB5 hs2 hs3 hs4 hs5
    go_wp2_with fail
    refine (over_any _ _ _ _ hj6).mono ?_
    rintro e w7 ⟨rfl, rfl⟩
    go_wp2_with fail
    refine (over_any _ _ _ _ hq6).mono ?_
    rintro e w8 ⟨rfl, rfl⟩
    have hov : (a1 != a1) = false := by simp
    go_wp2_with fail
    refine (spent_any _ _ _ _ hj6).mono ?_
    rintro e w9 ⟨rfl, rfl⟩
    go_wp2_with fail
    refine (spent_any _ _ _ _ hq6).mono ?_
    rintro e w10 ⟨rfl, rfl⟩
    go_wp2_with fail
    refine (spent_any _ _ _ _ hj6).mono ?_
    rintro e w11 ⟨rfl, rfl⟩
    have he : (a0 + (cnt a4 : Int) * a2 + (cnt a4 : Int) * a3 == a0 + (cnt a4 : Int) * (a2 + a3)) = true := by have := HMUL.out; exact beq_iff_eq.2 (by omega)
    go_wp2_with fail
    refine (over_any _ _ _ _ hj6).mono ?_
    rintro e w12 ⟨rfl, rfl⟩
    have ho : (a1 == a1) = true := by simp
    go_wp2
    go_ret
    exact ⟨rfl, hB6⟩

  replace hJ : 19660800 - a0 < (cnt a4 : Int) * (a2 + a3) := by omega
  by_cases h1 : (cnt a4 : Int) * a2 ≤ 19660800 - a0
  · have hS := HMUL.out
    have h2 : 19660800 - (a0 + (cnt a4 : Int) * a2) < (cnt a4 : Int) * a3 := by omega
    clear hS
    go_wp2_with fail
    refine (fits_no _ _ _ _ (by omega) (by omega) (by omega) (by omega) (by omega) (by omega) hJ).mono ?_
    rintro e w1' ⟨rfl, rfl⟩
    go_wp2_with fail
    refine (new_any a0 a1 _).mono ?_
    rintro e w2 ⟨rfl, hj2, hg2⟩
    have hB2 := hB1.grown hg2 hs1 no_row
    have hs2 := hB2.size
    have hlt := hj2.lt
    go_wp2_with fail
    refine (spend_no _ a0 a1 (a2 + a3) a4 _ hj2 c1' c2' (by omega) c5' hsz hJ).mono ?_
    rintro e w3 ⟨rfl, hj3, hg3⟩
    have hB3 := hB2.grown hg3 hs2 (some_row hs1)
    have hs3 := hB3.size
    have hsz3 := hg3.size
    go_wp2_with fail
    refine (new_any a0 a1 _).mono ?_
    rintro e w4 ⟨rfl, hq4, hg4⟩
    have hB4 := hB3.grown hg4 hs3 no_row
    have hs4 := hB4.size
    have hj4 := hj3.keep hg4 (by simp)
    go_wp2_with fail
    refine (spend_yes _ a0 a1 a2 a4 _ hq4 c1' c2' c3' b2b hsz (by omega)).mono ?_
    rintro e w5 ⟨rfl, hq5, hg5⟩
    have hB5 := hB4.grown hg5 hs4 (some_row hs3)
    have hs5 := hB5.size
    have hj5 := hj4.keep hg5 (by simp; omega)
    go_wp2_with fail
    refine (spend_no _ (a0 + (cnt a4 : Int) * a2) a1 a3 a4 _ hq5 (by omega) (by omega) c4' b3b hsz (by omega)).mono ?_
    rintro e w6 ⟨rfl, hq6, hg6⟩
    have hB6 := hB5.grown hg6 hs5 (some_row hs3)
    have hj6 := hj5.keep hg6 (by simp; omega)
    clear hj2 hj3 hj4 hj5 hq4 hq5 hg2 hg3 hg4 hg5 hg6 hB2 hB3 hB4 hB5 hs2 hs3 hs4 hs5
    go_wp2_with fail
    refine (over_any _ _ _ _ hj6).mono ?_
    rintro e w7 ⟨rfl, rfl⟩
    go_wp2_with fail
    refine (over_any _ _ _ _ hq6).mono ?_
    rintro e w8 ⟨rfl, rfl⟩
    go_wp2_with fail
    refine (spent_any _ _ _ _ hj6).mono ?_
    rintro e w9 ⟨rfl, rfl⟩
    go_wp2_with fail
    refine (over_any _ _ _ _ hj6).mono ?_
    rintro e w10 ⟨rfl, rfl⟩
    go_wp2
    go_ret
    exact ⟨rfl, hB6⟩
  by_cases h2 : (cnt a4 : Int) * a3 ≤ 19660800 - a0
  · go_wp2_with fail
    refine (fits_no _ _ _ _ (by omega) (by omega) (by omega) (by omega) (by omega) (by omega) hJ).mono ?_
    rintro e w1' ⟨rfl, rfl⟩
    go_wp2_with fail
    refine (new_any a0 a1 _).mono ?_
    rintro e w2 ⟨rfl, hj2, hg2⟩
    have hB2 := hB1.grown hg2 hs1 no_row
    have hs2 := hB2.size
    have hlt := hj2.lt
    go_wp2_with fail
    refine (spend_no _ a0 a1 (a2 + a3) a4 _ hj2 c1' c2' (by omega) c5' hsz hJ).mono ?_
    rintro e w3 ⟨rfl, hj3, hg3⟩
    have hB3 := hB2.grown hg3 hs2 (some_row hs1)
    have hs3 := hB3.size
    have hsz3 := hg3.size
    go_wp2_with fail
    refine (new_any a0 a1 _).mono ?_
    rintro e w4 ⟨rfl, hq4, hg4⟩
    have hB4 := hB3.grown hg4 hs3 no_row
    have hs4 := hB4.size
    have hj4 := hj3.keep hg4 (by simp)
    go_wp2_with fail
    refine (spend_no _ a0 a1 a2 a4 _ hq4 c1' c2' c3' b2b hsz (by omega)).mono ?_
    rintro e w5 ⟨rfl, hq5, hg5⟩
    have hB5 := hB4.grown hg5 hs4 (some_row hs3)
    have hs5 := hB5.size
    have hj5 := hj4.keep hg5 (by simp; omega)
    go_wp2_with fail
    refine (spend_yes _ a0 true a3 a4 _ hq5 (by omega) (by omega) c4' b3b hsz (by omega)).mono ?_
    rintro e w6 ⟨rfl, hq6, hg6⟩
    have hB6 := hB5.grown hg6 hs5 (some_row hs3)
    have hj6 := hj5.keep hg6 (by simp; omega)
    clear hj2 hj3 hj4 hj5 hq4 hq5 hg2 hg3 hg4 hg5 hg6 hB2 hB3 hB4 hB5 hs2 hs3 hs4 hs5
    go_wp2_with fail
    refine (over_any _ _ _ _ hj6).mono ?_
    rintro e w7 ⟨rfl, rfl⟩
    go_wp2_with fail
    refine (over_any _ _ _ _ hq6).mono ?_
    rintro e w8 ⟨rfl, rfl⟩
    go_wp2_with fail
    refine (spent_any _ _ _ _ hj6).mono ?_
    rintro e w9 ⟨rfl, rfl⟩
    go_wp2_with fail
    refine (over_any _ _ _ _ hj6).mono ?_
    rintro e w10 ⟨rfl, rfl⟩
    go_wp2
    go_ret
    exact ⟨rfl, hB6⟩
  · go_wp2_with fail
    refine (fits_no _ _ _ _ (by omega) (by omega) (by omega) (by omega) (by omega) (by omega) hJ).mono ?_
    rintro e w1' ⟨rfl, rfl⟩
    go_wp2_with fail
    refine (new_any a0 a1 _).mono ?_
    rintro e w2 ⟨rfl, hj2, hg2⟩
    have hB2 := hB1.grown hg2 hs1 no_row
    have hs2 := hB2.size
    have hlt := hj2.lt
    go_wp2_with fail
    refine (spend_no _ a0 a1 (a2 + a3) a4 _ hj2 c1' c2' (by omega) c5' hsz hJ).mono ?_
    rintro e w3 ⟨rfl, hj3, hg3⟩
    have hB3 := hB2.grown hg3 hs2 (some_row hs1)
    have hs3 := hB3.size
    have hsz3 := hg3.size
    go_wp2_with fail
    refine (new_any a0 a1 _).mono ?_
    rintro e w4 ⟨rfl, hq4, hg4⟩
    have hB4 := hB3.grown hg4 hs3 no_row
    have hs4 := hB4.size
    have hj4 := hj3.keep hg4 (by simp)
    go_wp2_with fail
    refine (spend_no _ a0 a1 a2 a4 _ hq4 c1' c2' c3' b2b hsz (by omega)).mono ?_
    rintro e w5 ⟨rfl, hq5, hg5⟩
    have hB5 := hB4.grown hg5 hs4 (some_row hs3)
    have hs5 := hB5.size
    have hj5 := hj4.keep hg5 (by simp; omega)
    go_wp2_with fail
    refine (spend_no _ a0 true a3 a4 _ hq5 (by omega) (by omega) c4' b3b hsz (by omega)).mono ?_
    rintro e w6 ⟨rfl, hq6, hg6⟩
    have hB6 := hB5.grown hg6 hs5 (some_row hs3)
    have hj6 := hj5.keep hg6 (by simp; omega)
    clear hj2 hj3 hj4 hj5 hq4 hq5 hg2 hg3 hg4 hg5 hg6 hB2 hB3 hB4 hB5 hs2 hs3 hs4 hs5
    go_wp2_with fail
    refine (over_any _ _ _ _ hj6).mono ?_
    rintro e w7 ⟨rfl, rfl⟩
    go_wp2_with fail
    refine (over_any _ _ _ _ hq6).mono ?_
    rintro e w8 ⟨rfl, rfl⟩
    go_wp2_with fail
    refine (spent_any _ _ _ _ hj6).mono ?_
    rintro e w9 ⟨rfl, rfl⟩
    go_wp2_with fail
    refine (over_any _ _ _ _ hj6).mono ?_
    rintro e w10 ⟨rfl, rfl⟩
    go_wp2
    go_ret
    exact ⟨rfl, hB6⟩

end Go.Proofs.Qxb6630719a
