/-
  Small laws on the blocks that zzBuild makes.
-/
import Derived.Test.Qxb6630784aMem
namespace Go.Proofs.Qxb6630784a
open Go.RowKit

theorem there_carry {w w' : World} {b o n : Nat} (h : w.there b o n) (hb : w'.heap[b]? = w.heap[b]?) : w'.there b o n := fun j hj => by
  rw [World.cell?_of_block (w := w) (a := ⟨b, o + j, none⟩) hb, World.frozen?_of_block (w := w) (a := ⟨b, o + j, none⟩) hb]
  exact h j hj

theorem block_setCells (b : Nat) : ∀ (vs : List Value) (o : Nat) (w : World) (k : Nat), k ≠ b → (w.setCells b o vs).heap[k]? = w.heap[k]?
  | [], _, _, _, _ => rfl
  | v :: vs, o, w, k, h => by
    rw [World.setCells, block_setCells b vs _ _ k h, Below.heap_setCell _ _ _ _ h]
theorem below_setCells {B : Nat} {a : World} (b : Nat) (hb : B ≤ b) : ∀ (vs : List Value) (o : Nat) (w : World), Below B a w → Below B a (w.setCells b o vs)
  | [], _, _, h => h
  | v :: vs, o, _, h => below_setCells b hb vs _ _ (h.setCell (p := ⟨b, o, none⟩) hb v)
theorem size_setCells (b : Nat) : ∀ (vs : List Value) (o : Nat) (w : World), (w.setCells b o vs).heap.size = w.heap.size
  | [], _, _ => rfl
  | v :: vs, o, w => by rw [World.setCells, size_setCells b vs]; simp [World.setCell]

/-- The block of the workload itself: (Channels, Messages). -/
structure Box (w : World) (g : Nat) (x y : Value) : Prop where
  c0 : w.cell? ⟨g, 0, none⟩ = some x
  c1 : w.cell? ⟨g, 1, none⟩ = some y
  free : ∀ j, w.frozen? ⟨g, j, none⟩ = false
theorem Box.carry {w w' : World} {g : Nat} {x y : Value} (h : Box w g x y) (hb : w'.heap[g]? = w.heap[g]?) : Box w' g x y :=
  ⟨(World.cell?_of_block (w := w) (a := ⟨g, 0, none⟩) hb).trans h.c0, (World.cell?_of_block (w := w) (a := ⟨g, 1, none⟩) hb).trans h.c1, fun j => (World.frozen?_of_block (w := w) (a := ⟨g, j, none⟩) hb).trans (h.free j)⟩
theorem Box.lt {w : World} {g : Nat} {x y : Value} (h : Box w g x y) : g < w.heap.size := World.block_lt_of_cell? _ _ h.c0
theorem Box.set1 {w : World} {g : Nat} {x y : Value} (h : Box w g x y) (z : Value) : Box (w.setCell ⟨g, 1, none⟩ z) g x z :=
  ⟨(World.cell?_setCell_other _ _ _ _ (by simp)).trans h.c0, World.cell?_setCell_same _ _ _ h.c1, fun j => by simp [h.free j]⟩
theorem Box.set0 {w : World} {g : Nat} {x y : Value} (h : Box w g x y) (z : Value) : Box (w.setCell ⟨g, 0, none⟩ z) g z y :=
  ⟨World.cell?_setCell_same _ _ _ h.c0, (World.cell?_setCell_other _ _ _ _ (by simp)).trans h.c1, fun j => by simp [h.free j]⟩

/-- The first k messages lie in block b. -/
def MsgsTo (w : World) (b : Nat) (ss : List Int) (k : Nat) : Prop := ∀ j, j < k → w.rangeAt b (j * 6) (msg j (ss[j]?.getD 0))
theorem MsgsTo.carry {w w' : World} {b : Nat} {ss : List Int} {k : Nat} (h : MsgsTo w b ss k) (hb : w'.heap[b]? = w.heap[b]?) : MsgsTo w' b ss k := fun j hj => range_carry (h j hj) hb
theorem msg_step {w : World} {b n k : Nat} {ss : List Int} (ht : w.there b 0 (n * 6)) (h : MsgsTo w b ss k) (hk : k < n) :
    (w.setCells b (k * 6) (msg k (ss[k]?.getD 0))).there b 0 (n * 6) ∧ MsgsTo (w.setCells b (k * 6) (msg k (ss[k]?.getD 0))) b ss (k + 1) := by
  refine ⟨World.there_setCells ht b (k * 6) _, fun j hj => ?_⟩
  by_cases e : j = k
  · subst e
    refine World.rangeAt_setCells_same w b (j * 6) _ (fun i hi => ?_)
    have := ht (j * 6 + i) (by simp [msg] at hi; omega)
    simpa using this
  · exact World.rangeAt_setCells_apart (h j (by omega)) b (k * 6) _ (.inr (.inl (by simp [msg]; omega)))

/-- The first k channels lie in block b; their members read, in w0, as the lists. -/
def ChansTo (w0 w : World) (b : Nat) (css : List (List Int)) (k : Nat) : Prop :=
  ∀ j, j < k → ∃ s a l c, w.rangeAt b (j * 2) [.string s, .slice a l c] ∧ Rd w0 a l c (ints (css[j]?.getD []))
theorem ChansTo.carry {w0 w w' : World} {b : Nat} {css : List (List Int)} {k : Nat} (h : ChansTo w0 w b css k) (hb : w'.heap[b]? = w.heap[b]?) : ChansTo w0 w' b css k := fun j hj => by
  obtain ⟨s, a, l, c, h1, h2⟩ := h j hj
  exact ⟨s, a, l, c, range_carry h1 hb, h2⟩
theorem chan_step {w0 w : World} {b m k : Nat} {css : List (List Int)} {s : ByteArray} {a : Option Addr} {l c : Nat} (ht : w.there b 0 (m * 2)) (h : ChansTo w0 w b css k) (hk : k < m) (hrd : Rd w0 a l c (ints (css[k]?.getD []))) :
    (w.setCells b (k * 2) [.string s, .slice a l c]).there b 0 (m * 2) ∧ ChansTo w0 (w.setCells b (k * 2) [.string s, .slice a l c]) b css (k + 1) := by
  refine ⟨World.there_setCells ht b (k * 2) _, fun j hj => ?_⟩
  by_cases e : j = k
  · subst e
    refine ⟨s, a, l, c, World.rangeAt_setCells_same w b (j * 2) _ (fun i hi => ?_), hrd⟩
    have := ht (j * 2 + i) (by simp at hi; omega)
    simpa using this
  · obtain ⟨s', a', l', c', h1, h2⟩ := h j (by omega)
    exact ⟨s', a', l', c', World.rangeAt_setCells_apart h1 b (k * 2) _ (.inr (.inl (by simp; omega))), h2⟩

/-- From the blocks to the workload. -/
theorem msgs_of {w : World} {b : Nat} {ss : List Int} (h : MsgsTo w b ss ss.length) (hb : b < w.heap.size) : Msgs w (some ⟨b, 0, none⟩) ss := fun i hi =>
  ⟨b, 0, rfl, hb, by rw [Nat.zero_add]; exact h i hi⟩
theorem msgs_nil (w : World) (am : Option Addr) : Msgs w am [] := fun i hi => by simp at hi
theorem chans_of {w0 w : World} {b : Nat} {css : List (List Int)} (h : ChansTo w0 w b css css.length) (hb : b < w.heap.size) (hbel : Below w0.heap.size w0 w) : Chans w (some ⟨b, 0, none⟩) css := fun i hi => by
  obtain ⟨s, a, l, c, h1, h2⟩ := h i hi
  exact ⟨b, 0, s, a, l, c, rfl, hb, by rw [Nat.zero_add]; exact h1, h2.carry hbel⟩
theorem chans_nil (w : World) (ac : Option Addr) : Chans w ac [] := fun i hi => by simp at hi

theorem wrap_in {z : Int} (h0 : 0 ≤ z) (h1 : z ≤ 1048576) : IntKind.i64.wrap z = z := by
  simp [IntKind.wrap, IntKind.bits, IntKind.signed]
  omega

/-- What 'make' has laid is there. -/
theorem there_own {w : World} {B e size g n : Nat} {xs : List Value} (h : w.ownsRow B e size (.slice (some ⟨g, 0, none⟩) n n) n xs) : w.there g 0 (n * size) := fun j hj => by
  rw [Nat.zero_add, h.cellAt j hj]
  have hl : xs.length = n * size := h.1
  exact ⟨by rw [List.getElem?_eq_getElem (by rw [hl]; exact hj)]; rfl, h.frozenAt j⟩

end Go.Proofs.Qxb6630784a
