/-
  FnSpendTextSplitAgreesWithJoint, walked.
-/
import Derived.Test.Qxb6630719aWalks
import Derived.OpenShut
namespace Go.Proofs.Qxb6630719a
open Go.RowKit

theorem no_rowT {B : Nat} : ∀ k, (none : Option Nat) = some k → B ≤ k := fun k h => by cases h
theorem some_rowT {B g : Nat} (h : B ≤ g) : ∀ k, some g = some k → B ≤ k := fun k e => by cases e; exact h

set_option maxHeartbeats 2000000 in
set_option maxRecDepth 100000 in
theorem text_walk (a0 : Int) (a1 : Bool) (a2 : Int) (a3 : ByteArray) (a4 : ByteArray) (w2 : (Lit.int .i64 a2).wf = true) (w3 : a3.size ≤ maxLen) (w4 : a4.size ≤ maxLen) (w : World) :
    Calls Try.prog 4 #[.int .i64 a0, .bool a1, .int .i64 a2, .string a3, .string a4] w fun e w' => e = .returned (.bool true) ∧ Below w.heap.size w w' := by
  have b2 := bounds_i64 w2
  obtain ⟨b2a, b2b⟩ := b2
  clear w2
  go_enter Try.func4, Try.ntmps4
  go_wp2_with fail
  refine (bytes2 a0 a1 a2 a3 a4 w w3 w4).mono ?_
  rintro e w0 ⟨rfl, rfl⟩
  by_cases hsz : a3.size + a4.size ≤ 1048576
  case neg =>
    have hd : decide (a3.size + a4.size ≤ 1048576) = false := decide_eq_false hsz
    rw [hd]
    go_wp2
    go_ret
    exact ⟨rfl, Below.refl _ _⟩
  have hd : decide (a3.size + a4.size ≤ 1048576) = true := decide_eq_true hsz
  rw [hd]
  clear hd w4 w3
  have hz3 : a3.size ≤ 1048576 := by omega
  have hz4 : a4.size ≤ 1048576 := by omega
  have hd0 : decide ((1048576 : Int) < (a3.size : Int)) = false := decide_eq_false (by omega)
  have hd1 : decide (1048576 - (a3.size : Int) < (a4.size : Int)) = false := decide_eq_false (by omega)
  by_cases c1 : a0 < 0
  · go_wp2
    go_ret
    exact ⟨rfl, Below.refl _ _⟩
  by_cases c2 : 19660800 < a0
  · go_wp2
    go_ret
    exact ⟨rfl, Below.refl _ _⟩
  by_cases c3 : a2 < 1
  · go_wp2
    go_ret
    exact ⟨rfl, Below.refl _ _⟩
  have c1' : 0 ≤ a0 := by omega
  have c2' : a0 ≤ 19660800 := by omega
  have c3' : 1 ≤ a2 := by omega
  have cle3 := cnt_le a3
  have cle4 := cnt_le a4
  go_wp2_with fail
  refine (count_any a3 w0 hz3).mono ?_
  rintro e w1a ⟨rfl, hg1a⟩
  have hB1a : Below w0.heap.size w0 w1a := (Below.refl _ _).grown hg1a (Nat.le_refl _) no_rowT
  have hs1a := hB1a.size
  clear hg1a
  go_wp2_with fail
  refine (count_any a4 _ hz4).mono ?_
  rintro e w1b ⟨rfl, hg1b⟩
  have hB1b := hB1a.grown hg1b hs1a no_rowT
  have hs1b := hB1b.size
  clear hg1b hB1a hs1a
  go_wp2_with fail
  have hzT : (a3 ++ a4).size ≤ 1048576 := by rw [ByteArray.size_append]; exact hsz
  refine (count_any (a3 ++ a4) _ hzT).mono ?_
  rintro e w1 ⟨rfl, hg1⟩
  have hB1 := hB1b.grown hg1 hs1b no_rowT
  have hs1 := hB1.size
  clear hg1 hB1b hs1b
  by_cases heq : cnt (a3 ++ a4) = cnt a3 + cnt a4
  case neg =>
    have hne : ((cnt (a3 ++ a4) : Int) != (cnt a3 : Int) + (cnt a4 : Int)) = true := by rw [bne_iff_ne]; omega
    clear heq
    go_wp2
    go_ret
    exact ⟨rfl, hB1⟩
  have hne : ((cnt (a3 ++ a4) : Int) != (cnt a3 : Int) + (cnt a4 : Int)) = false := by rw [heq]; simp
  have heq2 : (cnt (a3 ++ a4) : Int) = (cnt a3 : Int) + (cnt a4 : Int) := by omega
  have HEQ : Hid ((cnt (a3 ++ a4) : Int) = (cnt a3 : Int) + (cnt a4 : Int)) := heq2
  have HMUL : Hid (((cnt a3 : Int) + (cnt a4 : Int)) * a2 = (cnt a3 : Int) * a2 + (cnt a4 : Int) * a2) := Int.add_mul _ _ _
  have HT : Hid ((cnt (a3 ++ a4) : Int) * a2 = ((cnt a3 : Int) + (cnt a4 : Int)) * a2) := by show _ = _; rw [heq2]
  have p1 : 0 ≤ (cnt a3 : Int) * a2 := Int.mul_nonneg (by omega) (by omega)
  have p2 : 0 ≤ (cnt a4 : Int) * a2 := Int.mul_nonneg (by omega) (by omega)
  clear heq heq2
  by_cases hJ : ((cnt a3 : Int) + (cnt a4 : Int)) * a2 ≤ 19660800 - a0
  · have hS := HMUL.out
    have h1 : (cnt a3 : Int) * a2 ≤ 19660800 - a0 := by omega
    have h2 : (cnt a4 : Int) * a2 ≤ 19660800 - (a0 + (cnt a3 : Int) * a2) := by omega
    have p3 : 0 ≤ ((cnt a3 : Int) + (cnt a4 : Int)) * a2 := by omega
    clear hS
    go_wp2_with fail
    refine (fits_yes _ _ _ _ (by omega) (by omega) (by omega) (by omega) (by omega) (by omega) hJ).mono ?_
    rintro e w1' ⟨rfl, rfl⟩
    go_wp2_with fail
    refine (new_any a0 a1 _).mono ?_
    rintro e w2 ⟨rfl, hj2, hg2⟩
    have hB2 := hB1.grown hg2 hs1 no_rowT
    have hs2 := hB2.size
    have hlt := hj2.lt
    go_wp2_with fail
    refine (spend_yes _ a0 a1 a2 (a3 ++ a4) _ hj2 c1' c2' c3' b2b hzT (by rw [HT.out]; exact hJ)).mono ?_
    rintro e w3 ⟨rfl, hj3, hg3⟩
    have hB3 := hB2.grown hg3 hs2 (some_rowT hs1)
    have hs3 := hB3.size
    have hsz3 := hg3.size
    go_wp2_with fail
    refine (new_any a0 a1 _).mono ?_
    rintro e w4 ⟨rfl, hq4, hg4⟩
    have hB4 := hB3.grown hg4 hs3 no_rowT
    have hs4 := hB4.size
    have hj4 := hj3.keep hg4 (by simp)
    go_wp2_with fail
    refine (spend_yes _ a0 a1 a2 a3 _ hq4 c1' c2' c3' b2b hz3 (by omega)).mono ?_
    rintro e w5 ⟨rfl, hq5, hg5⟩
    have hB5 := hB4.grown hg5 hs4 (some_rowT hs3)
    have hs5 := hB5.size
    have hj5 := hj4.keep hg5 (by simp; omega)
    go_wp2_with fail
    refine (spend_yes _ (a0 + (cnt a3 : Int) * a2) a1 a2 a4 _ hq5 (by omega) (by omega) c3' b2b hz4 (by omega)).mono ?_
    rintro e w6 ⟨rfl, hq6, hg6⟩
    have hB6 := hB5.grown hg6 hs5 (some_rowT hs3)
    have hj6 := hj5.keep hg6 (by simp; omega)
    clear hj2 hj3 hj4 hj5 hq4 hq5 hg2 hg3 hg4 hg5 hg6 hB2 hB3 hB4 hB5 hs2 hs3 hs4 hs5
    go_wp2_with fail
    refine (over_any _ _ _ _ hj6).mono ?_
    rintro e w7 ⟨rfl, rfl⟩
    go_wp2_with fail
    refine (over_any _ _ _ _ hq6).mono ?_
    rintro e w8 ⟨rfl, rfl⟩
    have hov : (a1 != a1) = false := by simp
    have he1 : (a0 + (cnt (a3 ++ a4) : Int) * a2 == a0 + ((cnt a3 : Int) + (cnt a4 : Int)) * a2) = true := by have := HT.out; exact beq_iff_eq.2 (by omega)
    go_wp2_with fail
    refine (spent_any _ _ _ _ hj6).mono ?_
    rintro e w9 ⟨rfl, rfl⟩
    go_wp2_with fail
    refine (spent_any _ _ _ _ hq6).mono ?_
    rintro e w10 ⟨rfl, rfl⟩
    go_wp2_with fail
    refine (spent_any _ _ _ _ hj6).mono ?_
    rintro e w11 ⟨rfl, rfl⟩
    have he : (a0 + (cnt a3 : Int) * a2 + (cnt a4 : Int) * a2 == a0 + (cnt (a3 ++ a4) : Int) * a2) = true := by have h8 := HT.out; have h9 := HMUL.out; exact beq_iff_eq.2 (by omega)
    go_wp2_with fail
    refine (over_any _ _ _ _ hj6).mono ?_
    rintro e w12 ⟨rfl, rfl⟩
    have ho : (a1 == a1) = true := by simp
    go_wp2
    go_ret
    exact ⟨rfl, hB6⟩
  replace hJ : 19660800 - a0 < ((cnt a3 : Int) + (cnt a4 : Int)) * a2 := by omega
  by_cases h1 : (cnt a3 : Int) * a2 ≤ 19660800 - a0
  · have hS := HMUL.out
    have h2 : 19660800 - (a0 + (cnt a3 : Int) * a2) < (cnt a4 : Int) * a2 := by omega
    clear hS
    go_wp2_with fail
    refine (fits_no _ _ _ _ (by omega) (by omega) (by omega) (by omega) (by omega) (by omega) hJ).mono ?_
    rintro e w1' ⟨rfl, rfl⟩
    go_wp2_with fail
    refine (new_any a0 a1 _).mono ?_
    rintro e w2 ⟨rfl, hj2, hg2⟩
    have hB2 := hB1.grown hg2 hs1 no_rowT
    have hs2 := hB2.size
    have hlt := hj2.lt
    go_wp2_with fail
    refine (spend_no _ a0 a1 a2 (a3 ++ a4) _ hj2 c1' c2' c3' b2b hzT (by rw [HT.out]; exact hJ)).mono ?_
    rintro e w3 ⟨rfl, hj3, hg3⟩
    have hB3 := hB2.grown hg3 hs2 (some_rowT hs1)
    have hs3 := hB3.size
    have hsz3 := hg3.size
    go_wp2_with fail
    refine (new_any a0 a1 _).mono ?_
    rintro e w4 ⟨rfl, hq4, hg4⟩
    have hB4 := hB3.grown hg4 hs3 no_rowT
    have hs4 := hB4.size
    have hj4 := hj3.keep hg4 (by simp)
    go_wp2_with fail
    refine (spend_yes _ a0 a1 a2 a3 _ hq4 c1' c2' c3' b2b hz3 (by omega)).mono ?_
    rintro e w5 ⟨rfl, hq5, hg5⟩
    have hB5 := hB4.grown hg5 hs4 (some_rowT hs3)
    have hs5 := hB5.size
    have hj5 := hj4.keep hg5 (by simp; omega)
    go_wp2_with fail
    refine (spend_no _ (a0 + (cnt a3 : Int) * a2) a1 a2 a4 _ hq5 (by omega) (by omega) c3' b2b hz4 (by omega)).mono ?_
    rintro e w6 ⟨rfl, hq6, hg6⟩
    have hB6 := hB5.grown hg6 hs5 (some_rowT hs3)
    have hj6 := hj5.keep hg6 (by simp; omega)
    clear hj2 hj3 hj4 hj5 hq4 hq5 hg2 hg3 hg4 hg5 hg6 hB2 hB3 hB4 hB5 hs2 hs3 hs4 hs5
    go_wp2_with fail
    refine (over_any _ _ _ _ hj6).mono ?_
    rintro e w7 ⟨rfl, rfl⟩
    go_wp2_with fail
    refine (over_any _ _ _ _ hq6).mono ?_
    rintro e w8 ⟨rfl, rfl⟩
    go_wp2_with fail
    refine (spent_any _ _ _ _ hj6).mono ?_
    rintro e w9 ⟨rfl, rfl⟩
    go_wp2_with fail
    refine (over_any _ _ _ _ hj6).mono ?_
    rintro e w10 ⟨rfl, rfl⟩
    go_wp2
    go_ret
    exact ⟨rfl, hB6⟩
  by_cases h2 : (cnt a4 : Int) * a2 ≤ 19660800 - a0
  · go_wp2_with fail
    refine (fits_no _ _ _ _ (by omega) (by omega) (by omega) (by omega) (by omega) (by omega) hJ).mono ?_
    rintro e w1' ⟨rfl, rfl⟩
    go_wp2_with fail
    refine (new_any a0 a1 _).mono ?_
    rintro e w2 ⟨rfl, hj2, hg2⟩
    have hB2 := hB1.grown hg2 hs1 no_rowT
    have hs2 := hB2.size
    have hlt := hj2.lt
    go_wp2_with fail
    refine (spend_no _ a0 a1 a2 (a3 ++ a4) _ hj2 c1' c2' c3' b2b hzT (by rw [HT.out]; exact hJ)).mono ?_
    rintro e w3 ⟨rfl, hj3, hg3⟩
    have hB3 := hB2.grown hg3 hs2 (some_rowT hs1)
    have hs3 := hB3.size
    have hsz3 := hg3.size
    go_wp2_with fail
    refine (new_any a0 a1 _).mono ?_
    rintro e w4 ⟨rfl, hq4, hg4⟩
    have hB4 := hB3.grown hg4 hs3 no_rowT
    have hs4 := hB4.size
    have hj4 := hj3.keep hg4 (by simp)
    go_wp2_with fail
    refine (spend_no _ a0 a1 a2 a3 _ hq4 c1' c2' c3' b2b hz3 (by omega)).mono ?_
    rintro e w5 ⟨rfl, hq5, hg5⟩
    have hB5 := hB4.grown hg5 hs4 (some_rowT hs3)
    have hs5 := hB5.size
    have hj5 := hj4.keep hg5 (by simp; omega)
    go_wp2_with fail
    refine (spend_yes _ a0 true a2 a4 _ hq5 (by omega) (by omega) c3' b2b hz4 (by omega)).mono ?_
    rintro e w6 ⟨rfl, hq6, hg6⟩
    have hB6 := hB5.grown hg6 hs5 (some_rowT hs3)
    have hj6 := hj5.keep hg6 (by simp; omega)
    clear hj2 hj3 hj4 hj5 hq4 hq5 hg2 hg3 hg4 hg5 hg6 hB2 hB3 hB4 hB5 hs2 hs3 hs4 hs5
    go_wp2_with fail
    refine (over_any _ _ _ _ hj6).mono ?_
    rintro e w7 ⟨rfl, rfl⟩
    go_wp2_with fail
    refine (over_any _ _ _ _ hq6).mono ?_
    rintro e w8 ⟨rfl, rfl⟩
    go_wp2_with fail
    refine (spent_any _ _ _ _ hj6).mono ?_
    rintro e w9 ⟨rfl, rfl⟩
    go_wp2_with fail
    refine (over_any _ _ _ _ hj6).mono ?_
    rintro e w10 ⟨rfl, rfl⟩
    go_wp2
    go_ret
    exact ⟨rfl, hB6⟩
  · go_wp2_with fail
    refine (fits_no _ _ _ _ (by omega) (by omega) (by omega) (by omega) (by omega) (by omega) hJ).mono ?_
    rintro e w1' ⟨rfl, rfl⟩
    go_wp2_with fail
    refine (new_any a0 a1 _).mono ?_
    rintro e w2 ⟨rfl, hj2, hg2⟩
    have hB2 := hB1.grown hg2 hs1 no_rowT
    have hs2 := hB2.size
    have hlt := hj2.lt
    go_wp2_with fail
    refine (spend_no _ a0 a1 a2 (a3 ++ a4) _ hj2 c1' c2' c3' b2b hzT (by rw [HT.out]; exact hJ)).mono ?_
    rintro e w3 ⟨rfl, hj3, hg3⟩
    have hB3 := hB2.grown hg3 hs2 (some_rowT hs1)
    have hs3 := hB3.size
    have hsz3 := hg3.size
    go_wp2_with fail
    refine (new_any a0 a1 _).mono ?_
    rintro e w4 ⟨rfl, hq4, hg4⟩
    have hB4 := hB3.grown hg4 hs3 no_rowT
    have hs4 := hB4.size
    have hj4 := hj3.keep hg4 (by simp)
    go_wp2_with fail
    refine (spend_no _ a0 a1 a2 a3 _ hq4 c1' c2' c3' b2b hz3 (by omega)).mono ?_
    rintro e w5 ⟨rfl, hq5, hg5⟩
    have hB5 := hB4.grown hg5 hs4 (some_rowT hs3)
    have hs5 := hB5.size
    have hj5 := hj4.keep hg5 (by simp; omega)
    go_wp2_with fail
    refine (spend_no _ a0 true a2 a4 _ hq5 (by omega) (by omega) c3' b2b hz4 (by omega)).mono ?_
    rintro e w6 ⟨rfl, hq6, hg6⟩
    have hB6 := hB5.grown hg6 hs5 (some_rowT hs3)
    have hj6 := hj5.keep hg6 (by simp; omega)
    clear hj2 hj3 hj4 hj5 hq4 hq5 hg2 hg3 hg4 hg5 hg6 hB2 hB3 hB4 hB5 hs2 hs3 hs4 hs5
    go_wp2_with fail
    refine (over_any _ _ _ _ hj6).mono ?_
    rintro e w7 ⟨rfl, rfl⟩
    go_wp2_with fail
    refine (over_any _ _ _ _ hq6).mono ?_
    rintro e w8 ⟨rfl, rfl⟩
    go_wp2_with fail
    refine (spent_any _ _ _ _ hj6).mono ?_
    rintro e w9 ⟨rfl, rfl⟩
    go_wp2_with fail
    refine (over_any _ _ _ _ hj6).mono ?_
    rintro e w10 ⟨rfl, rfl⟩
    go_wp2
    go_ret
    exact ⟨rfl, hB6⟩

end Go.Proofs.Qxb6630719a
