/-
  More plain mathematics of Members: joins, the least bound, one name more.
-/
import Derived.Test.Qxb6630784aPlain
namespace Go.Proofs.Qxb6630784a.Pl

theorem top_split (f : Int → Int) (a b : List Int) : top f 1 (a ++ b) = max (top f 1 a) (top f 1 b) := by
  rw [top_append]
  have h := top_ge f a 1
  have := top_max f b (top f 1 a) 1
  rwa [show max (top f 1 a) 1 = top f 1 a by omega] at this
theorem top_one (f : Int → Int) (x : Int) : top f 1 [x] = max 1 (f x) := rfl
theorem mem_ge (f : Int → Int) (ss : List Int) (css : List (List Int)) : 1 ≤ mem f ss css := top_ge f _ 1
theorem mem_split (f : Int → Int) (ss : List Int) (css : List (List Int)) : mem f ss css = max (top f 1 ss) (top f 1 css.flatten) := top_split f _ _

/-- THE JOIN. -/
theorem mem_join (f : Int → Int) (ss : List Int) (css : List (List Int)) (i j : Nat) :
    mem f ss css = max (mem f (ss.take i) (css.take j)) (mem f (ss.drop i) (css.drop j)) := by
  have e1 := top_split f (ss.take i) (ss.drop i)
  rw [List.take_append_drop] at e1
  have e2 := top_split f (css.take j).flatten (css.drop j).flatten
  rw [← List.flatten_append, List.take_append_drop] at e2
  rw [mem_split, mem_split, mem_split, e1, e2]
  omega

/-- Has r a witness among these? -/
def wit (r : Int) (l : List Int) : Bool := (r == 1) || l.any (fun x => x == r - 1)
theorem wit_nil (r : Int) : wit r [] = (r == 1) := by simp [wit]
theorem wit_yes {r : Int} {l : List Int} {x : Int} (h : x = r - 1) : wit r (l ++ [x]) = true := by simp [wit, h]
theorem wit_no {r : Int} {l : List Int} {x : Int} (h : x ≠ r - 1) : wit r (l ++ [x]) = wit r l := by
  have e : (x == r - 1) = false := beq_eq_false_iff_ne.2 h
  simp [wit, e]
theorem wit_yes_at {r : Int} {p l : List Int} {k : Nat} (hk : k < l.length) (h : l[k]?.getD 0 = r - 1) : wit r (p ++ l.take (k + 1)) = true := by
  rw [take_snoc 0 l hk, ← List.append_assoc]
  exact wit_yes h
theorem wit_no_at {r : Int} {p l : List Int} {k : Nat} (hk : k < l.length) (h : l[k]?.getD 0 ≠ r - 1) : wit r (p ++ l.take (k + 1)) = wit r (p ++ l.take k) := by
  rw [take_snoc 0 l hk, ← List.append_assoc]
  exact wit_no h
theorem flat_row {css : List (List Int)} {k : Nat} (hk : k < css.length) : (css.take (k + 1)).flatten = (css.take k).flatten ++ (css[k]?.getD []) := by
  rw [take_snoc [] css hk, List.flatten_append]
  simp

/-- Where f is 'plus one' on every name: the least bound. -/
theorem mem_lt {f : Int → Int} {ss : List Int} {css : List (List Int)} (hf : ∀ x ∈ names ss css, f x = x + 1) {x : Int} (hx : x ∈ names ss css) : x < mem f ss css := by
  have := top_mem f (names ss css) 1 x hx
  rw [hf x hx] at this
  unfold mem
  omega
theorem mem_wit {f : Int → Int} {ss : List Int} {css : List (List Int)} (hf : ∀ x ∈ names ss css, f x = x + 1) : wit (mem f ss css) (names ss css) = true := by
  rcases top_wit f (names ss css) 1 with h | ⟨x, hx, h⟩
  · have : mem f ss css = 1 := h
    simp [wit, this]
  · have e : mem f ss css = x + 1 := by show top f 1 (names ss css) = x + 1; rw [← h, hf x hx]
    unfold wit
    rw [Bool.or_eq_true, List.any_eq_true]
    exact .inr ⟨x, hx, by rw [beq_iff_eq]; omega⟩
theorem mem_le {f : Int → Int} {ss : List Int} {css : List (List Int)} (hf : ∀ x ∈ names ss css, f x = x + 1) {B : Int} (h1 : 1 ≤ B) (hB : ∀ x ∈ names ss css, x + 1 ≤ B) : mem f ss css ≤ B := by
  rcases top_wit f (names ss css) 1 with h | ⟨x, hx, h⟩
  · show top f 1 (names ss css) ≤ B; omega
  · show top f 1 (names ss css) ≤ B; rw [← h, hf x hx]; exact hB x hx

theorem mem_ss {ss : List Int} {css : List (List Int)} {k : Nat} (hk : k < ss.length) : ss[k]?.getD 0 ∈ names ss css := by
  unfold names
  rw [List.getElem?_eq_getElem hk]
  exact List.mem_append_left _ (List.getElem_mem hk)
theorem mem_css {ss : List Int} {css : List (List Int)} {k j : Nat} (hk : k < css.length) (hj : j < (css[k]?.getD []).length) : (css[k]?.getD [])[j]?.getD 0 ∈ names ss css := by
  unfold names
  rw [List.getElem?_eq_getElem hj]
  refine List.mem_append_right _ (List.mem_flatten.2 ⟨css[k]?.getD [], ?_, List.getElem_mem hj⟩)
  rw [List.getElem?_eq_getElem hk]
  exact List.getElem_mem hk

/-- No name is B. -/
theorem names_ne {ss : List Int} {css : List (List Int)} {B : Int} (h1 : ∀ i, i < ss.length → ss[i]?.getD 0 ≠ B) (h2 : ∀ k, k < css.length → ∀ j, j < (css[k]?.getD []).length → (css[k]?.getD [])[j]?.getD 0 ≠ B) : ∀ x ∈ names ss css, x ≠ B := by
  intro x hx
  unfold names at hx
  rcases List.mem_append.1 hx with hx | hx
  · obtain ⟨i, hi, rfl⟩ := List.getElem_of_mem hx
    have := h1 i hi
    rwa [List.getElem?_eq_getElem hi] at this
  · obtain ⟨l, hl, hx⟩ := List.mem_flatten.1 hx
    obtain ⟨k, hk, rfl⟩ := List.getElem_of_mem hl
    obtain ⟨j, hj, rfl⟩ := List.getElem_of_mem hx
    have e : css[k]?.getD [] = css[k] := by rw [List.getElem?_eq_getElem hk]; rfl
    have := h2 k hk j (by rw [e]; exact hj)
    rw [e, List.getElem?_eq_getElem hj] at this
    exact this

end Go.Proofs.Qxb6630784a.Pl
