/-
  The plain mathematics of Members: no Go in sight. f: what a name counts for ('the name plus one', whatever that is).
-/
namespace Go.Proofs.Qxb6630784a.Pl

/-- The greatest of n and f x, over the list. -/
def top (f : Int → Int) (n : Int) (l : List Int) : Int := l.foldl (fun n x => max n (f x)) n
theorem top_nil (f : Int → Int) (n : Int) : top f n [] = n := rfl
theorem top_snoc (f : Int → Int) (n : Int) (l : List Int) (x : Int) : top f n (l ++ [x]) = max (top f n l) (f x) := by simp [top]
theorem top_cons (f : Int → Int) (n : Int) (l : List Int) (x : Int) : top f n (x :: l) = top f (max n (f x)) l := rfl
theorem top_append (f : Int → Int) (n : Int) (a b : List Int) : top f n (a ++ b) = top f (top f n a) b := by simp [top]
theorem top_max (f : Int → Int) (l : List Int) : ∀ a b, top f (max a b) l = max a (top f b l) := by
  induction l with
  | nil => intro a b; rfl
  | cons x r ih =>
    intro a b
    rw [top_cons, top_cons, show max (max a b) (f x) = max a (max b (f x)) by omega, ih]
theorem top_ge (f : Int → Int) (l : List Int) : ∀ n, n ≤ top f n l := by
  induction l with
  | nil => intro n; exact Int.le_refl _
  | cons x r ih => intro n; rw [top_cons]; have := ih (max n (f x)); omega
theorem top_mem (f : Int → Int) (l : List Int) : ∀ n x, x ∈ l → f x ≤ top f n l := by
  induction l with
  | nil => intro n x h; cases h
  | cons y r ih =>
    intro n x h
    rw [top_cons]
    rcases List.mem_cons.1 h with rfl | h
    · have := top_ge f r (max n (f x)); omega
    · exact ih _ x h
theorem top_wit (f : Int → Int) (l : List Int) : ∀ n, top f n l = n ∨ ∃ x ∈ l, f x = top f n l := by
  induction l with
  | nil => intro n; exact .inl rfl
  | cons y r ih =>
    intro n
    rw [top_cons]
    rcases ih (max n (f y)) with h | ⟨x, hx, h⟩
    · by_cases hy : f y ≤ n
      · left; rw [h]; omega
      · right; exact ⟨y, List.mem_cons_self, by rw [h]; omega⟩
    · exact .inr ⟨x, List.mem_cons_of_mem _ hx, h⟩

/-- The names of a workload, senders first. -/
def names (ss : List Int) (css : List (List Int)) : List Int := ss ++ css.flatten
/-- Members. -/
def mem (f : Int → Int) (ss : List Int) (css : List (List Int)) : Int := top f 1 (names ss css)

theorem take_snoc {α : Type} (d : α) (l : List α) {k : Nat} (h : k < l.length) : l.take (k + 1) = l.take k ++ [l[k]?.getD d] := by
  rw [List.take_add_one, List.getElem?_eq_getElem h]; rfl
theorem top_take (f : Int → Int) (n : Int) (l : List Int) {k : Nat} (h : k < l.length) : top f n (l.take (k + 1)) = max (top f n (l.take k)) (f (l[k]?.getD 0)) := by
  rw [take_snoc 0 l h, top_snoc]
theorem top_rows (f : Int → Int) (n : Int) (css : List (List Int)) {k : Nat} (h : k < css.length) :
    top f n (css.take (k + 1)).flatten = top f (top f n (css.take k).flatten) (css[k]?.getD []) := by
  rw [take_snoc [] css h, List.flatten_append, top_append]
  simp

end Go.Proofs.Qxb6630784a.Pl
