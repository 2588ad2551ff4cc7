/-
  The plain mathematics of putting one item in: no Go in sight.
-/
import Derived.Test.Qxb6630670aPlain
namespace Go.Proofs.Qxb6630670a.Pl

/-- Y is Z with x put in at place p. -/
structure Put (Z Y : Nat → List Int) (x : List Int) (p : Nat) : Prop where
  before : ∀ i, i < p → Y i = Z i
  here : Y p = x
  behind : ∀ i, Y (p + 1 + i) = Z (p + i)

def comma (b : Prop) [Decidable b] : List Int := if b then [44] else []

theorem put_pre {Z Y : Nat → List Int} {x : List Int} {p n : Nat} (h : Put Z Y x p) (hp : p ≤ n) :
    pre Y (n + 1) = pre Z p ++ (comma (0 < p) ++ (x ++ (comma (p < n) ++ pre (fun i => Z (p + i)) (n - p)))) := by
  have e1 := pre_join Y p (n + 1 - p)
  rw [show p + (n + 1 - p) = n + 1 by omega] at e1
  have e2 := pre_join (fun i => Y (p + i)) 1 (n - p)
  rw [show 1 + (n - p) = n + 1 - p by omega] at e2
  have e3 : pre Y p = pre Z p := pre_congr h.before
  have e4 : pre (fun i => Y (p + i)) 1 = x := by simp [pre, h.here]
  have e5 : pre (fun i => Y (p + (1 + i))) (n - p) = pre (fun i => Z (p + i)) (n - p) := pre_congr fun i _ => by rw [← h.behind i]; congr 1; omega
  rw [e1, e2, e3, e4, e5]
  have c1 : (0 < p ∧ 0 < n + 1 - p) = (0 < p) := by simp; omega
  have c2 : (0 < 1 ∧ 0 < n - p) = (p < n) := by simp; omega
  simp only [c1, c2, comma]

/-- The offset at which item p begins. -/
def off (Z : Nat → List Int) (p : Nat) : Nat := 1 + sum Z p + p

theorem off_zero (Z : Nat → List Int) : off Z 0 = 1 := rfl
theorem off_next (Z : Nat → List Int) (p : Nat) : off Z (p + 1) = off Z p + ((Z p).length + 1) := by simp [off, sum]; omega

/-- The answer, cut where item p begins. -/
theorem arr_cut (Z : Nat → List Int) {p n : Nat} (hp : p < n) :
    arr Z n = (91 :: (pre Z p ++ comma (0 < p))) ++ (pre (fun i => Z (p + i)) (n - p) ++ [93]) ∧ (91 :: (pre Z p ++ comma (0 < p))).length = off Z p := by
  constructor
  · rw [arr_join Z p n (by omega)]
    have c : (0 < p ∧ p < n) = (0 < p) := by simp; omega
    simp only [c, comma]
    simp
  · have hl := pre_len Z p
    unfold off comma
    by_cases h0 : 0 < p
    · simp [h0, hl]; omega
    · have : p = 0 := by omega
      subst this
      simp [pre, sum]

theorem put_empty {Z Y : Nat → List Int} {x : List Int} {p : Nat} (h : Put Z Y x p) (hp : p = 0) : arr Y 1 = 91 :: (x ++ [93]) := by
  subst hp
  simp [arr, pre, h.here]

theorem put_end {Z Y : Nat → List Int} {x : List Int} {p n : Nat} (h : Put Z Y x p) (hp : p = n) (hn : 0 < n) : arr Y (n + 1) = (91 :: pre Z n) ++ (44 :: (x ++ [93])) := by
  subst hp
  unfold arr
  rw [put_pre h (Nat.le_refl _)]
  simp [comma, hn, pre]

theorem put_mid {Z Y : Nat → List Int} {x : List Int} {p n : Nat} (h : Put Z Y x p) (hp : p < n) :
    arr Y (n + 1) = (arr Z n).take (off Z p) ++ (x ++ (44 :: (arr Z n).drop (off Z p))) := by
  obtain ⟨e, el⟩ := arr_cut Z hp
  rw [e, ← el, List.take_left, List.drop_left]
  unfold arr
  rw [put_pre h (by omega)]
  simp [comma, hp]

theorem off_le (Z : Nat → List Int) {p n : Nat} (hp : p < n) : off Z p ≤ (arr Z n).length := by
  obtain ⟨e, el⟩ := arr_cut Z hp
  rw [e, List.length_append, el]
  omega

theorem off_lt (Z : Nat → List Int) {p n : Nat} (hp : p < n) : off Z p < (arr Z n).length := by
  obtain ⟨e, el⟩ := arr_cut Z hp
  rw [e, List.length_append, el]
  simp
theorem off_mono (Z : Nat → List Int) {a b : Nat} (h : a ≤ b) : off Z a ≤ off Z b := by
  induction b with
  | zero => have : a = 0 := by omega
            subst this; exact Nat.le_refl _
  | succ b ih =>
    by_cases e : a = b + 1
    · subst e; exact Nat.le_refl _
    · have := ih (by omega); rw [off_next]; omega

theorem put_len {Z Y : Nat → List Int} {x : List Int} {p n : Nat} (h : Put Z Y x p) (hp : p ≤ n) : (pre Y (n + 1)).length ≤ (pre Z n).length + x.length + 2 := by
  have e := pre_join Z p (n - p)
  rw [show p + (n - p) = n by omega] at e
  rw [put_pre h hp, e]
  have c1 : (comma (0 < p)).length ≤ 1 := by unfold comma; split <;> simp
  have c2 : (comma (p < n)).length ≤ 1 := by unfold comma; split <;> simp
  simp only [List.length_append]
  omega

theorem sum_mono (Z : Nat → List Int) {a b : Nat} (h : a ≤ b) : sum Z a ≤ sum Z b := by
  induction b with
  | zero => have : a = 0 := by omega
            subst this; exact Nat.le_refl _
  | succ b ih =>
    by_cases e : a = b + 1
    · subst e; exact Nat.le_refl _
    · have := ih (by omega); simp only [sum]; omega

end Go.Proofs.Qxb6630670a.Pl
