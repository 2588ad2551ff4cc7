/-
  The plain mathematics of appendEscaped: no Go in sight.
-/
namespace Go.Proofs.Qxb6630751a.Pl

/-- May this octet stand as it is? -/
def safe (c : Int) : Bool := decide (33 ≤ c ∧ c ≤ 126) && !(decide (c = 34 ∨ c = 44 ∨ c = 59 ∨ c = 92 ∨ c = 37))
/-- What isBaggageOctet says. -/
def oct (c : Int) : Bool := decide (c = 33 ∨ (35 ≤ c ∧ c ≤ 43) ∨ (45 ≤ c ∧ c ≤ 58) ∨ (60 ≤ c ∧ c ≤ 91) ∨ (93 ≤ c ∧ c ≤ 126))
theorem safe_oct (c : Int) : safe c = (oct c && !(decide (c = 37))) := by
  rw [Bool.eq_iff_iff]
  simp [safe, oct]
  omega

theorem safe_true {c : Int} : safe c = true ↔ (33 ≤ c ∧ c ≤ 126) ∧ c ≠ 34 ∧ c ≠ 44 ∧ c ≠ 59 ∧ c ≠ 92 ∧ c ≠ 37 := by
  simp [safe]
theorem safe_false {c : Int} : safe c = false ↔ c < 33 ∨ 126 < c ∨ c = 34 ∨ c = 44 ∨ c = 59 ∨ c = 92 ∨ c = 37 := by
  rw [← Bool.not_eq_true, safe_true]
  omega
theorem oct_true {c : Int} : oct c = true ↔ c = 33 ∨ (35 ≤ c ∧ c ≤ 43) ∨ (45 ≤ c ∧ c ≤ 58) ∨ (60 ≤ c ∧ c ≤ 91) ∨ (93 ≤ c ∧ c ≤ 126) := by
  simp [oct]
theorem oct_false {c : Int} : oct c = false ↔ c < 33 ∨ c = 34 ∨ c = 44 ∨ c = 59 ∨ c = 92 ∨ 126 < c := by
  rw [← Bool.not_eq_true, oct_true]
  omega

/-- An upper-case hex digit. -/
def hexd (h : Int) : Int := if h < 10 then 48 + h else 55 + h

theorem hexd_safe {h : Int} (h0 : 0 ≤ h) (h1 : h < 16) : safe (hexd h) = true := by
  rw [safe_true]
  unfold hexd
  split <;> omega

/-- The escape of one octet; of a list of octets. -/
def escB (c : Int) : List Int := if safe c then [c] else [37, hexd (c / 16), hexd (c % 16)]
def esc (l : List Int) : List Int := l.flatMap escB

theorem escB_safe {c : Int} (h : safe c = true) : escB c = [c] := by simp [escB, h]
theorem escB_not {c : Int} (h : safe c = false) : escB c = [37, hexd (c / 16), hexd (c % 16)] := by simp [escB, h]
theorem esc_nil : esc [] = [] := rfl
theorem esc_append (a b : List Int) : esc (a ++ b) = esc a ++ esc b := by simp [esc]
theorem esc_snoc (a : List Int) (c : Int) : esc (a ++ [c]) = esc a ++ escB c := by simp [esc]
theorem esc_cons (c : Int) (a : List Int) : esc (c :: a) = escB c ++ esc a := by simp [esc]

/-- How many octets are not safe. -/
def bad (l : List Int) : Nat := (l.filter fun c => !(safe c)).length
theorem bad_nil : bad [] = 0 := rfl
theorem bad_snoc (a : List Int) (c : Int) : bad (a ++ [c]) = bad a + (if safe c then 0 else 1) := by
  unfold bad
  rw [List.filter_append]
  by_cases h : safe c = true
  · simp [h]
  · simp [h]
theorem bad_le (l : List Int) : bad l ≤ l.length := List.length_filter_le _ _

theorem esc_len (l : List Int) : (esc l).length = l.length + 2 * bad l := by
  induction l with
  | nil => rfl
  | cons c r ih =>
    rw [esc_cons, List.length_append, ih]
    unfold bad escB
    by_cases h : safe c = true
    · simp [h]; omega
    · simp [h]; omega

theorem esc_all (l : List Int) (hl : ∀ c ∈ l, 0 ≤ c ∧ c ≤ 255) : ∀ d ∈ esc l, d = 37 ∨ safe d = true := by
  intro d hd
  unfold esc at hd
  rw [List.mem_flatMap] at hd
  obtain ⟨c, hc, hd⟩ := hd
  have hb := hl c hc
  unfold escB at hd
  by_cases h : safe c = true
  · simp [h] at hd; subst hd; exact .inr h
  · simp [h] at hd
    rcases hd with rfl | rfl | rfl
    · exact .inl rfl
    · exact .inr (hexd_safe (by omega) (by omega))
    · exact .inr (hexd_safe (by omega) (by omega))

/-- Where the escapes stand: behind the first k octets comes the escape of octet k. -/
theorem esc_at (l : List Int) {k : Nat} (hk : k < l.length) : esc l = esc (l.take k) ++ (escB (l[k]'hk) ++ esc (l.drop (k + 1))) := by
  have e : l = l.take k ++ (l[k]'hk :: l.drop (k + 1)) := by rw [← List.drop_eq_getElem_cons hk, List.take_append_drop]
  have e2 := congrArg esc e
  rw [esc_append, esc_cons] at e2
  exact e2
theorem esc_take_succ (l : List Int) {k : Nat} (hk : k < l.length) : esc (l.take (k + 1)) = esc (l.take k) ++ escB (l[k]'hk) := by
  rw [List.take_succ_eq_append_getElem hk, esc_snoc]
theorem bad_take_succ (l : List Int) {k : Nat} (hk : k < l.length) : bad (l.take (k + 1)) = bad (l.take k) + (if safe (l[k]'hk) then 0 else 1) := by
  rw [List.take_succ_eq_append_getElem hk, bad_snoc]

end Go.Proofs.Qxb6630751a.Pl
