/-
  What came in, read as items: a [][]byte argument; a []byte argument.
-/
import Derived.Test.Qxb6630670aWalks
import Derived.ProofKit
import Derived.ChangeOld
import Derived.Deep.Matrix
namespace Go.Proofs.Qxb6630670a
open Go.ChangeShapes Go.WideShapes Go.ChangeAt Go.RowKit

theorem items_of {H : Type} {enc : TypeId × Value → H} {W : World} {a0 : Option Addr} {len0 cap0 : Nat} {d0 : DataW H} {p0 : List MemPlace}
    (h0 : DataW.Trod enc Try.prog W 0 (fun _ => true) true 22 (.slice a0 len0 cap0) d0 p0) : ∃ zss, Items W a0 len0 cap0 zss ∧ len0 ≤ maxLen ∧ len0 ≤ cap0 := by
  obtain ⟨fuel, hf⟩ := h0
  rcases Go.Deep.open_int_rows Try.underlying22 Try.underlying24 Try.underlying5 (by kernel_rfl) (by kernel_rfl) hf with ⟨hcs, _⟩ | ⟨a, len, cap, A, L, C, Z, hcs, _, hl, hm, _, hrow⟩
  · simp [Value.cells] at hcs
    obtain ⟨rfl, rfl, rfl⟩ := hcs
    exact ⟨[], ⟨[], Rd.ofNil _, rfl, fun i u hu => by simp at hu⟩, Nat.zero_le _, Nat.le_refl _⟩
  · simp [Value.cells] at hcs
    obtain ⟨rfl, rfl, rfl⟩ := hcs
    refine ⟨(List.range len0).map fun r => (Z r).take (L r), ⟨(List.range len0).map fun r => .slice (A r) (L r) (C r), ⟨by simp, hl, hm, (fun e => by cases e), fun ad had i u hu => ?_⟩, by simp, fun i u hu => ?_⟩, Nat.le_trans hl hm, hl⟩
    · cases had
      have hi : i < len0 := by have := (List.getElem?_eq_some_iff.1 hu).1; simpa using this
      simp [hi] at hu
      subst hu
      exact (hrow i (by omega)).1
    · have hi : i < len0 := by have := (List.getElem?_eq_some_iff.1 hu).1; simpa using this
      simp [hi] at hu
      subst hu
      obtain ⟨_, h1, h2, h3, _, h5, h6⟩ := hrow i (by omega)
      refine ⟨A i, L i, C i, rfl, ?_⟩
      have e : ((List.range len0).map fun r => (Z r).take (L r))[i]?.getD [] = (Z i).take (L i) := by simp [hi]
      rw [e]
      refine ⟨by rw [bytes_len, List.length_take]; omega, h1, h2, fun e => by have := h5 e; omega, fun ad had j u hu => ?_⟩
      have hj : j < L i := by have := (List.getElem?_eq_some_iff.1 hu).1; rw [bytes_len, List.length_take] at this; omega
      rw [bytes_at (by rw [List.length_take]; omega)] at hu
      cases hu
      rw [(h6 ad had).2 j (by omega), List.getElem?_take, if_pos hj]
      rfl

theorem bytes_of {H : Type} {enc : TypeId × Value → H} {W : World} {a0 : Option Addr} {len0 cap0 : Nat} {d0 : DataW H} {p0 : List MemPlace}
    (h0 : DataW.Trod enc Try.prog W 0 (fun _ => true) true 24 (.slice a0 len0 cap0) d0 p0) : ∃ zs, Rd W a0 len0 cap0 (bytes zs) := by
  obtain ⟨fuel, hf⟩ := h0
  rcases open_ints Try.underlying24 Try.underlying5 (by kernel_rfl) hf with ⟨hcs, _⟩ | ⟨x, l, c, zs, hcs, _, hl, hm, hz, _, hcell, hwz⟩
  · simp [Value.cells] at hcs
    obtain ⟨rfl, rfl, rfl⟩ := hcs
    exact ⟨[], Rd.ofNil _⟩
  · simp [Value.cells] at hcs
    obtain ⟨rfl, rfl, rfl⟩ := hcs
    simp only [if_true] at hz
    refine ⟨zs.take len0, by rw [bytes_len, List.length_take]; omega, hl, hm, (fun e => by cases e), fun ad had j u hu => ?_⟩
    cases had
    have hj : j < len0 := by have := (List.getElem?_eq_some_iff.1 hu).1; rw [bytes_len, List.length_take] at this; omega
    rw [bytes_at (by rw [List.length_take]; omega)] at hu
    cases hu
    rw [hcell j (by omega), List.getElem?_take, if_pos hj]
    rfl

end Go.Proofs.Qxb6630670a
