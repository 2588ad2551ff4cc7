/-
  One name more: the plain law, and small laws on the slices that FnMembersAfterOneMoreNameIsMaxWithIt makes.
-/
import Derived.Test.Qxb6630784aBuild
import Derived.Test.Qxb6630784aPlain2
namespace Go.Proofs.Qxb6630784a
open Go.RowKit

namespace Pl
/-- x put in at place p. -/
def putIn (l : List Int) (x : Int) (p : Nat) : List Int := (l.take p ++ [x]) ++ l.drop p
theorem putIn_len (l : List Int) (x : Int) {p : Nat} (h : p ≤ l.length) : (putIn l x p).length = l.length + 1 := by simp [putIn]; omega
theorem top_putIn (f : Int → Int) (l : List Int) (x : Int) (p : Nat) : top f 1 (putIn l x p) = max (top f 1 l) (f x) := by
  have e1 := top_split f (l.take p) (l.drop p)
  rw [List.take_append_drop] at e1
  unfold putIn
  rw [top_split, top_split, top_one, e1]
  have := top_ge f (l.take p) 1
  omega
theorem top_rows_set (f : Int → Int) (css : List (List Int)) (x : Int) (c p : Nat) (h : c < css.length) :
    top f 1 (css.set c (putIn (css[c]?.getD []) x p)).flatten = max (top f 1 css.flatten) (f x) := by
  have e : css = css.take c ++ (css[c]?.getD [] :: css.drop (c + 1)) := by
    rw [List.getElem?_eq_getElem h]
    simp
  have e1 : top f 1 css.flatten = max (top f 1 (css.take c).flatten) (max (top f 1 (css[c]?.getD [])) (top f 1 (css.drop (c + 1)).flatten)) := by
    conv => lhs; rw [e, List.flatten_append, List.flatten_cons, top_split, top_split]
  rw [List.set_eq_take_append_cons_drop, if_pos h, List.flatten_append, List.flatten_cons, top_split, top_split, top_putIn, e1]
  omega
/-- THE LAW where there are channels. -/
theorem mem_more (f : Int → Int) (ss : List Int) (css : List (List Int)) (s k : Int) (a c p : Nat) (h : c < css.length) :
    mem f (putIn ss s a) (css.set c (putIn (css[c]?.getD []) k p)) = max (mem f ss css) (max (f s) (f k)) := by
  rw [mem_split, mem_split, top_putIn, top_rows_set f css k c p h]
  omega
/-- THE LAW where there is none. -/
theorem mem_more0 (f : Int → Int) (ss : List Int) (s k : Int) (a : Nat) :
    mem f (putIn ss s a) [[k]] = max (mem f ss []) (max (f s) (f k)) := by
  rw [mem_split, mem_split, top_putIn]
  have e1 : top f 1 [[k]].flatten = max 1 (f k) := rfl
  have e2 : top f 1 ([] : List (List Int)).flatten = 1 := rfl
  rw [e1, e2]
  omega
end Pl

/-- A slice of one cell in a new block. -/
theorem Rd.one (w : World) (v : Value) (e : TypeId) : Rd (w.alloc (.cells #[v] e)) (some ⟨w.heap.size, 0, none⟩) 1 1 [v] :=
  ⟨rfl, Nat.le_refl _, by unfold maxLen; omega, (fun e => by cases e), fun ad had i u hu => by
    cases had
    match i, hu with
    | 0, hu => simp at hu; subst hu; simp [Addr.add]⟩

/-- The first k of vs, the rest zero. -/
def fill (vs : List Value) (n k : Nat) : List Value := vs.take k ++ List.replicate (n - k) (.slice none 0 0)
theorem fill_zero (vs : List Value) (n : Nat) : fill vs n 0 = List.replicate n (.slice none 0 0) := by simp [fill]
theorem fill_done (vs : List Value) (n : Nat) (h : vs.length = n) : fill vs n n = vs := by subst h; simp [fill]
theorem fill_set (vs : List Value) (n k : Nat) (h : vs.length = n) (hk : k < n) {u : Value} (hu : vs[k]? = some u) : (fill vs n k).set k u = fill vs n (k + 1) := by
  subst h
  have hu' : vs[k] = u := by rw [List.getElem?_eq_getElem hk] at hu; exact Option.some.inj hu
  unfold fill
  rw [List.set_append_right _ _ (by simp; omega)]
  have e : k - (List.take k vs).length = 0 := by simp; omega
  rw [e, show vs.length - k = (vs.length - (k + 1)) + 1 by omega, List.replicate_succ, List.set_cons_zero, List.take_succ_eq_append_getElem hk, hu']
  simp
theorem fill_at (vs : List Value) (n k : Nat) (h : vs.length = n) (hk : k < n) : (fill vs n k)[k]? = some (.slice none 0 0) := by
  subst h
  unfold fill
  rw [List.getElem?_append_right (by simp; omega)]
  have e : k - (List.take k vs).length = 0 := by simp; omega
  rw [e, List.getElem?_replicate, if_pos (by omega)]

/-- One cell of it is written. -/
theorem Rd.setAt {w : World} {b n c : Nat} {vs : List Value} (h : Rd w (some ⟨b, 0, none⟩) n c vs) (k : Nat) (hk : k < n) (v : Value) : Rd (w.setCell ⟨b, k, none⟩ v) (some ⟨b, 0, none⟩) n c (vs.set k v) :=
  ⟨by rw [List.length_set]; exact h.len, h.le, h.max, (fun e => by cases e), fun ad had i u hu => by
    cases had
    rw [Addr.add_lit, Nat.zero_add]
    by_cases e : i = k
    · subst e
      rw [List.getElem?_set_self (by rw [h.len]; exact hk)] at hu
      cases hu
      have h0 : vs[i]? = some (vs[i]'(by rw [h.len]; exact hk)) := List.getElem?_eq_getElem _
      have := h.cell _ rfl i _ h0
      rw [Addr.add_lit, Nat.zero_add] at this
      exact World.cell?_setCell_same _ _ _ this
    · rw [List.getElem?_set_ne (fun e' => e e'.symm)] at hu
      have := h.cell _ rfl i u hu
      rw [Addr.add_lit, Nat.zero_add] at this
      exact (World.cell?_setCell_other _ _ _ _ (fun e' => e (by cases e'; rfl))).trans this⟩
/-- A cell of another block is written. -/
theorem Rd.setOff {w : World} {b n c : Nat} {vs : List Value} (h : Rd w (some ⟨b, 0, none⟩) n c vs) (g k : Nat) (hg : b ≠ g) (v : Value) : Rd (w.setCell ⟨g, k, none⟩ v) (some ⟨b, 0, none⟩) n c vs :=
  ⟨h.len, h.le, h.max, (fun e => by cases e), fun ad had i u hu => by
    cases had
    have := h.cell _ rfl i u hu
    rw [World.cell?_of_block (w := w) (Below.heap_setCell _ _ _ _ (by rw [Addr.add_lit]; exact hg))]
    exact this⟩

/-- The rows, one of them another. -/
theorem Items.setAt {w0 w : World} {b m c : Nat} {css : List (List Int)} {vs : List Value} (hl : css.length = m) (hi : ∀ (i : Nat) (u : Value), vs[i]? = some u → ∃ a l c', u = Value.slice a l c' ∧ Rd w0 a l c' (ints (css[i]?.getD [])))
    (hb : Below w0.heap.size w0 w) {k : Nat} {a : Option Addr} {l c' : Nat} {zs : List Int} (hr : Rd w (some ⟨b, 0, none⟩) m c (vs.set k (.slice a l c'))) (hz : Rd w a l c' (ints zs)) (hk : k < m) : Items w (some ⟨b, 0, none⟩) m c (css.set k zs) := by
  have hlv : vs.length = m := by have := hr.len; rwa [List.length_set] at this
  refine ⟨_, hr, by rw [List.length_set]; exact hl, fun i u hu => ?_⟩
  by_cases e : i = k
  · subst e
    rw [List.getElem?_set_self (by omega)] at hu
    cases hu
    exact ⟨a, l, c', rfl, by rw [List.getElem?_set_self (by omega)]; exact hz⟩
  · rw [List.getElem?_set_ne (fun e' => e e'.symm)] at hu
    obtain ⟨a1, l1, c1, rfl, h1⟩ := hi i u hu
    exact ⟨a1, l1, c1, rfl, by rw [List.getElem?_set_ne (fun e' => e e'.symm)]; exact h1.carry hb⟩
theorem Items.parts {w : World} {ao : Option Addr} {n c : Nat} {zss : List (List Int)} (h : Items w ao n c zss) : ∃ vs : List Value, Rd w ao n c vs ∧ Hid (∀ (i : Nat) (u : Value), vs[i]? = some u → ∃ a l c', u = Value.slice a l c' ∧ Rd w a l c' (ints (zss[i]?.getD []))) := by
  obtain ⟨vs, h1, _, h3⟩ := h
  exact ⟨vs, h1, h3⟩
/-- One row alone. -/
theorem Items.one {w : World} {b c : Nat} {a : Option Addr} {l c' : Nat} {zs : List Int} (hr : Rd w (some ⟨b, 0, none⟩) 1 c [.slice a l c']) (hz : Rd w a l c' (ints zs)) : Items w (some ⟨b, 0, none⟩) 1 c [zs] :=
  ⟨_, hr, rfl, fun i u hu => by
    match i, hu with
    | 0, hu => simp at hu; exact ⟨a, l, c', hu.symm, hz⟩⟩

theorem ints_snoc (zs : List Int) (x : Int) : ints zs ++ [.int .i64 x] = ints (zs ++ [x]) := by simp [ints]
theorem ints_next {zs : List Int} {k : Nat} (h : k < zs.length) : ints (zs.take k) ++ [.int .i64 (zs[k]?.getD 0)] = ints (zs.take (k + 1)) := by rw [Pl.take_snoc 0 zs h, ints_snoc]
/-- What lies behind 'at' of the new list, j of the rest put on. -/
def Pl.upTo (zs : List Int) (x : Int) (p j : Nat) : List Int := (zs.take p ++ [x]) ++ (zs.drop p).take j
theorem upTo_zero (zs : List Int) (x : Int) (p : Nat) : Pl.upTo zs x p 0 = zs.take p ++ [x] := by simp [Pl.upTo]
theorem upTo_done {zs : List Int} (x : Int) {p j : Nat} (h : zs.length ≤ p + j) : Pl.upTo zs x p j = Pl.putIn zs x p := by
  unfold Pl.upTo Pl.putIn
  rw [List.take_of_length_le (l := zs.drop p) (by rw [List.length_drop]; omega)]
theorem ints_upTo {zs : List Int} (x : Int) {p t : Nat} (hp : p ≤ t) (h : t < zs.length) : ints (Pl.upTo zs x p (t - p)) ++ [.int .i64 (zs[t]?.getD 0)] = ints (Pl.upTo zs x p (t + 1 - p)) := by
  have e : (zs.drop p)[t - p]?.getD 0 = zs[t]?.getD 0 := by rw [List.getElem?_drop, show p + (t - p) = t by omega]
  rw [ints_snoc, show t + 1 - p = (t - p) + 1 by omega]
  unfold Pl.upTo
  rw [Pl.take_snoc 0 (zs.drop p) (by rw [List.length_drop]; omega), e, ← List.append_assoc]
theorem int_one (z : Int) : ∀ u ∈ [Value.int .i64 z], u.oneCell' = true := by intro u hu; simp at hu; subst hu; rfl
theorem more_each {css : List (List Int)} {zs : List Int} {m k : Nat} (h : ∀ i, i < m → (css[i]?.getD []).length ≤ 131072) (hl : css.length = m) (hz : zs.length ≤ 131073) : ∀ i, i < (css.set k zs).length → ((css.set k zs)[i]?.getD []).length ≤ 1048576 := fun i hi => by
  rw [List.length_set] at hi
  by_cases e : i = k
  · subst e
    rw [List.getElem?_set_self hi]
    simp
    omega
  · rw [List.getElem?_set_ne (fun e' => e e'.symm)]
    have := h i (by omega)
    omega

end Go.Proofs.Qxb6630784a
