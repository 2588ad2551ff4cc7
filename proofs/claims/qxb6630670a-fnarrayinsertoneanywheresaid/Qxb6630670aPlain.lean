/-
  The plain mathematics of rawjson.Array: no Go in sight.
-/
namespace Go.Proofs.Qxb6630670a.Pl

/-- The first n items, a comma between two. -/
def pre (Z : Nat → List Int) : Nat → List Int
  | 0 => []
  | j + 1 => pre Z j ++ ((if j = 0 then [] else [44]) ++ Z j)

theorem pre_zero (Z : Nat → List Int) : pre Z 0 = [] := rfl
theorem pre_first (Z : Nat → List Int) : pre Z 1 = Z 0 := by simp [pre]
theorem pre_next (Z : Nat → List Int) {j : Nat} (h : 0 < j) : pre Z (j + 1) = (pre Z j ++ [44]) ++ Z j := by
  simp [pre, show ¬ j = 0 by omega]

theorem pre_congr {Y Z : Nat → List Int} : ∀ {n : Nat}, (∀ i, i < n → Y i = Z i) → pre Y n = pre Z n
  | 0, _ => rfl
  | n + 1, h => by simp only [pre]; rw [pre_congr (fun i hi => h i (by omega)), h n (by omega)]

theorem pre_mono (Z : Nat → List Int) {a b : Nat} (h : a ≤ b) : (pre Z a).length ≤ (pre Z b).length := by
  induction b with
  | zero => have : a = 0 := by omega
            subst this; exact Nat.le_refl _
  | succ b ih =>
    by_cases e : a = b + 1
    · subst e; exact Nat.le_refl _
    · have := ih (by omega); simp [pre]; omega

/-- The bytes that the items take, one for a comma each. -/
def sum (Z : Nat → List Int) : Nat → Nat
  | 0 => 0
  | j + 1 => sum Z j + (Z j).length

theorem pre_len (Z : Nat → List Int) : ∀ n, (pre Z n).length = sum Z n + (n - 1)
  | 0 => rfl
  | 1 => by simp [pre, sum]
  | n + 2 => by
    rw [pre_next Z (by omega)]
    simp only [List.length_append, List.length_cons, List.length_nil, sum]
    rw [pre_len Z (n + 1)]
    simp only [sum]
    omega

/-- What Array writes. -/
def arr (Z : Nat → List Int) (n : Nat) : List Int := 91 :: (pre Z n ++ [93])

theorem arr_len (Z : Nat → List Int) (n : Nat) : (arr Z n).length = sum Z n + (n - 1) + 2 := by simp [arr, pre_len]

/-- THE JOIN: cut anywhere. -/
theorem pre_join (Z : Nat → List Int) (k : Nat) : ∀ m, pre Z (k + m) = pre Z k ++ ((if 0 < k ∧ 0 < m then [44] else []) ++ pre (fun i => Z (k + i)) m)
  | 0 => by simp [pre]
  | m + 1 => by
    rw [show k + (m + 1) = (k + m) + 1 by omega]
    rcases Nat.eq_zero_or_pos k with hk | hk
    · subst hk
      simp [pre_zero]
    · rw [pre_next Z (by omega), pre_join Z k m]
      rcases Nat.eq_zero_or_pos m with hm | hm
      · subst hm
        simp [pre, hk]
      · rw [pre_next _ hm]
        simp [hk, hm]

/-- Both parts joined are the whole. -/
theorem arr_join (Z : Nat → List Int) (k n : Nat) (h : k ≤ n) :
    arr Z n = (91 :: pre Z k) ++ ((if 0 < k ∧ k < n then [44] else []) ++ (pre (fun i => Z (k + i)) (n - k) ++ [93])) := by
  have := pre_join Z k (n - k)
  rw [show k + (n - k) = n by omega] at this
  unfold arr
  rw [this]
  have e : (0 < k ∧ 0 < n - k) = (0 < k ∧ k < n) := by simp; omega
  simp only [e]
  simp

end Go.Proofs.Qxb6630670a.Pl
