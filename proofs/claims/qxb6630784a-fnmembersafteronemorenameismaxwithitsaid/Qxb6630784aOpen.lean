/-
  What came in, read as items: a []int argument; a [][]int argument; every number within the kind's bounds.
-/
import Derived.Test.Qxb6630784aPlain
import Derived.Test.Qxb6630784aWalks
import Derived.ProofKit
import Derived.OpenShut
import Derived.ChangeOld
import Derived.Deep.Matrix
namespace Go.Proofs.Qxb6630784a
open Go.ChangeShapes Go.WideShapes Go.ChangeAt Go.RowKit

theorem items_of {H : Type} {enc : TypeId × Value → H} {W : World} {a0 : Option Addr} {len0 cap0 : Nat} {d0 : DataW H} {p0 : List MemPlace}
    (h0 : DataW.Trod enc Try.prog W 0 (fun _ => true) true 23 (.slice a0 len0 cap0) d0 p0) :
    ∃ zss, Items W a0 len0 cap0 zss ∧ len0 ≤ maxLen ∧ len0 ≤ cap0 ∧ ∀ zs ∈ zss, ∀ x ∈ zs, -9223372036854775808 ≤ x ∧ x ≤ 9223372036854775807 := by
  obtain ⟨fuel, hf⟩ := h0
  rcases Go.Deep.open_int_rows Try.underlying23 Try.underlying22 Try.underlying3 (by kernel_rfl) (by kernel_rfl) hf with ⟨hcs, _⟩ | ⟨a, len, cap, A, L, C, Z, hcs, _, hl, hm, _, hrow⟩
  · simp [Value.cells] at hcs
    obtain ⟨rfl, rfl, rfl⟩ := hcs
    exact ⟨[], ⟨[], Rd.ofNil _, rfl, fun i u hu => by simp at hu⟩, Nat.zero_le _, Nat.le_refl _, fun zs h => by cases h⟩
  · simp [Value.cells] at hcs
    obtain ⟨rfl, rfl, rfl⟩ := hcs
    refine ⟨(List.range len0).map fun r => (Z r).take (L r), ⟨(List.range len0).map fun r => .slice (A r) (L r) (C r), ⟨by simp, hl, hm, (fun e => by cases e), fun ad had i u hu => ?_⟩, by simp, fun i u hu => ?_⟩, Nat.le_trans hl hm, hl, fun zs hzs x hx => ?_⟩
    · cases had
      have hi : i < len0 := by have := (List.getElem?_eq_some_iff.1 hu).1; simpa using this
      simp [hi] at hu
      subst hu
      exact (hrow i (by omega)).1
    · have hi : i < len0 := by have := (List.getElem?_eq_some_iff.1 hu).1; simpa using this
      simp [hi] at hu
      subst hu
      obtain ⟨_, h1, h2, h3, _, h5, h6⟩ := hrow i (by omega)
      refine ⟨A i, L i, C i, rfl, ?_⟩
      have e : ((List.range len0).map fun r => (Z r).take (L r))[i]?.getD [] = (Z i).take (L i) := by simp [hi]
      rw [e]
      refine ⟨by rw [ints_len, List.length_take]; omega, h1, h2, fun e => by have := h5 e; omega, fun ad had j u hu => ?_⟩
      have hj : j < L i := by have := (List.getElem?_eq_some_iff.1 hu).1; rw [ints_len, List.length_take] at this; omega
      rw [ints_at (by rw [List.length_take]; omega)] at hu
      cases hu
      rw [(h6 ad had).2 j (by omega), List.getElem?_take, if_pos hj]
      rfl
    · obtain ⟨r, hr, rfl⟩ := List.mem_map.1 hzs
      have hr' : r < len0 := List.mem_range.1 hr
      exact bounds_i64 ((hrow r (by omega)).2.2.2.2.1 x (List.mem_of_mem_take hx))

theorem ints_of {H : Type} {enc : TypeId × Value → H} {W : World} {a0 : Option Addr} {len0 cap0 : Nat} {d0 : DataW H} {p0 : List MemPlace}
    (h0 : DataW.Trod enc Try.prog W 0 (fun _ => true) true 22 (.slice a0 len0 cap0) d0 p0) : ∃ zs, Rd W a0 len0 cap0 (ints zs) ∧ ∀ x ∈ zs, -9223372036854775808 ≤ x ∧ x ≤ 9223372036854775807 := by
  obtain ⟨fuel, hf⟩ := h0
  rcases open_ints Try.underlying22 Try.underlying3 (by kernel_rfl) hf with ⟨hcs, _⟩ | ⟨x, l, c, zs, hcs, _, hl, hm, hz, _, hcell, hwz⟩
  · simp [Value.cells] at hcs
    obtain ⟨rfl, rfl, rfl⟩ := hcs
    exact ⟨[], Rd.ofNil _, fun x h => by cases h⟩
  · simp [Value.cells] at hcs
    obtain ⟨rfl, rfl, rfl⟩ := hcs
    simp only [if_true] at hz
    refine ⟨zs.take len0, ⟨by rw [ints_len, List.length_take]; omega, hl, hm, (fun e => by cases e), fun ad had j u hu => ?_⟩, fun x hx => bounds_i64 (hwz x (List.mem_of_mem_take hx))⟩
    cases had
    have hj : j < len0 := by have := (List.getElem?_eq_some_iff.1 hu).1; rw [ints_len, List.length_take] at this; omega
    rw [ints_at (by rw [List.length_take]; omega)] at hu
    cases hu
    rw [hcell j (by omega), List.getElem?_take, if_pos hj]
    rfl

theorem names_in {ss : List Int} {css : List (List Int)} (h1 : ∀ x ∈ ss, -9223372036854775808 ≤ x ∧ x ≤ 9223372036854775807) (h2 : ∀ zs ∈ css, ∀ x ∈ zs, -9223372036854775808 ≤ x ∧ x ≤ 9223372036854775807) :
    ∀ x ∈ Pl.names ss css, -9223372036854775808 ≤ x ∧ x ≤ 9223372036854775807 := fun x hx => by
  unfold Pl.names at hx
  rcases List.mem_append.1 hx with hx | hx
  · exact h1 x hx
  · obtain ⟨l, hl, hx⟩ := List.mem_flatten.1 hx
    exact h2 l hl x hx

end Go.Proofs.Qxb6630784a
