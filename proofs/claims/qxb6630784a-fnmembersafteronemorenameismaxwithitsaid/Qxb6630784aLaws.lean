/-
  Laws of this seat's own, over any program: what a slice reads as ('Rd'), what becomes of it as the world grows, and 'append' onto a slice that the call itself made, from a source of whatever slice type.
-/
import Derived.WalkKit
import Derived.WalkSmall
import Derived.KernelRfl
import Derived.Deep.Slices
namespace Go.Proofs.Qxb6630784a
open Go.RowKit

/-- The slice value '.slice ao n c' reads, in w, as the cells 'vs' (one cell an element). -/
structure Rd (w : World) (ao : Option Addr) (n c : Nat) (vs : List Value) : Prop where
  len : vs.length = n
  le : n ≤ c
  max : c ≤ maxLen
  nil : ao = none → n = 0 ∧ c = 0
  cell : ∀ ad, ao = some ad → ∀ i u, vs[i]? = some u → w.cell? (ad.add i) = some u

theorem Rd.at {w : World} {ao : Option Addr} {n c : Nat} {vs : List Value} (h : Rd w ao n c vs) (hn : 0 < n) :
    ∃ b off, ao = some ⟨b, off, none⟩ ∧ b < w.heap.size ∧ ∀ i u, vs[i]? = some u → w.cell? ⟨b, off + i, none⟩ = some u := by
  cases ao with
  | none => have := (h.nil rfl).1; omega
  | some ad =>
    obtain ⟨b, off, spot⟩ := ad
    have h0 : vs[0]? = some (vs[0]'(by rw [h.len]; exact hn)) := List.getElem?_eq_getElem _
    have hc0 := h.cell _ rfl 0 _ h0
    have hs : spot = none := by simpa [Addr.add] using World.cell?_spot hc0
    subst hs
    refine ⟨b, off, rfl, World.block_lt_of_cell? _ _ hc0, fun i u hu => ?_⟩
    have := h.cell _ rfl i u hu
    rwa [Addr.add_lit] at this

/-- As long as what was there stands, the slice reads as it did. -/
theorem Rd.carry {w w' : World} {ao : Option Addr} {n c : Nat} {vs : List Value} (h : Rd w ao n c vs) (hb : Below w.heap.size w w') : Rd w' ao n c vs :=
  ⟨h.len, h.le, h.max, h.nil, fun ad had i u hu => by
    have hc := h.cell ad had i u hu
    rw [hb.cell (World.block_lt_of_cell? _ _ hc)]
    exact hc⟩

theorem Rd.drewN {w : World} {ao : Option Addr} {n c : Nat} {vs : List Value} (h : Rd w ao n c vs) (k : Nat) : Rd (w.drewN k) ao n c vs := h.carry (below_drewN (Below.refl _ _) k)
theorem Rd.drew {w : World} {ao : Option Addr} {n c : Nat} {vs : List Value} (h : Rd w ao n c vs) : Rd w.drew ao n c vs := h.carry (Below.refl _ _).drew
theorem Rd.alloc {w : World} {ao : Option Addr} {n c : Nat} {vs : List Value} (h : Rd w ao n c vs) (o : Obj) : Rd (w.alloc o) ao n c vs := h.carry ((Below.refl _ _).alloc (Nat.le_refl _) o)

theorem Rd.ofNil (w : World) : Rd w none 0 0 [] := ⟨rfl, Nat.le_refl _, Nat.zero_le _, fun _ => ⟨rfl, rfl⟩, fun _ h => by cases h⟩

/-- What the call owns reads as what it owns. -/
theorem Rd.ofOwn {w : World} {B : Nat} {e : TypeId} {g n cap : Nat} {vs : List Value} (h : w.ownsRow B e 1 (.slice (some ⟨g, 0, none⟩) n cap) n vs) : Rd w (some ⟨g, 0, none⟩) n cap vs := by
  have hl : vs.length = n := by simpa using h.1
  refine ⟨hl, ?_, ?_, (fun e => by cases e), ?_⟩
  · rcases h.2 with ⟨h', _⟩ | ⟨g', cap', cur, h', _, _, hnc, hcm, _⟩
    · simp at h'
    · simp at h'; omega
  · rcases h.2 with ⟨h', _⟩ | ⟨g', cap', cur, h', _, _, hnc, hcm, _⟩
    · simp at h'
    · simp at h'; omega
  · intro ad had i u hu
    cases had
    exact h.cells (g := g) rfl i u hu

/-- 'x[:k]'. -/
theorem Rd.take {w : World} {ao : Option Addr} {n c : Nat} {vs : List Value} (h : Rd w ao n c vs) {k : Nat} (hk : k ≤ n) : Rd w ao k c (vs.take k) :=
  ⟨by rw [List.length_take, h.len]; omega, by have := h.le; omega, h.max, fun e => by have := h.nil e; omega, fun ad had i u hu => by
    rw [List.getElem?_take] at hu
    split at hu
    · exact h.cell ad had i u hu
    · cases hu⟩

/-- 'x[k:]', whatever the address at the capacity's end. -/
theorem Rd.drop {w : World} {b off n c : Nat} {vs : List Value} (h : Rd w (some ⟨b, off, none⟩) n c vs) {k : Nat} (hk : k ≤ n) {ad : Addr} (had : k < n → ad = ⟨b, off + k, none⟩) :
    Rd w (some ad) (n - k) (c - k) (vs.drop k) :=
  ⟨by rw [List.length_drop, h.len], by have := h.le; omega, by have := h.max; omega, (fun e => by cases e), fun ad' had' i u hu => by
    cases had'
    have hi : i < n - k := by
      have := (List.getElem?_eq_some_iff.1 hu).1
      rw [List.length_drop, h.len] at this
      exact this
    rw [had (by omega), Addr.add_lit, Nat.add_assoc]
    rw [List.getElem?_drop] at hu
    have := h.cell _ rfl (k + i) u hu
    rwa [Addr.add_lit] at this⟩

/-- 'x[k:]', whatever x: the address as the model reckons it. -/
theorem Rd.dropG {w : World} {ao ao' : Option Addr} {n c : Nat} {vs : List Value} (h : Rd w ao n c vs) {k : Nat} (hk : k ≤ n) (h' : ao' = if c = k then ao else ao.map (fun x => x.add k)) :
    Rd w ao' (n - k) (c - k) (vs.drop k) := by
  have hle := h.le
  refine ⟨by rw [List.length_drop, h.len], by omega, by have := h.max; omega, fun e => ?_, fun ad' had' i u hu => ?_⟩
  · by_cases hc : c = k
    · omega
    · rw [if_neg hc, e] at h'
      cases ao with
      | none => have := h.nil rfl; omega
      | some ad => simp at h'
  · have hi : i < n - k := by
      have := (List.getElem?_eq_some_iff.1 hu).1
      rw [List.length_drop, h.len] at this
      exact this
    have hc : ¬ c = k := by omega
    rw [if_neg hc] at h'
    cases ao with
    | none => rw [had'] at h'; simp at h'
    | some ad =>
      rw [had'] at h'
      simp only [Option.map_some, Option.some.injEq] at h'
      subst h'
      rw [List.getElem?_drop] at hu
      have hcell := h.cell _ rfl (k + i) u hu
      rw [Go.Deep.add_add]
      exact hcell

section
variable {P : Program}

/-- 'x[j:]' as one step: the address under a name. -/
theorem run_drop (w : World) {t e : TypeId} {z : Value} {b : Nat} (ht : P.underlying t = some (.slice e)) (hinf : (P.info? e).map (fun i => (i.zero, i.size, i.bytes)) = some (some z, 1, b))
    (ao : Option Addr) (n c j : Nat) (hj : j ≤ n) {ao' : Option Addr} (h' : ao' = if c = j then ao else ao.map (fun x => x.add j)) :
    (Instr.slice t (.slice ao n c) (some (.int .i64 (j : Int))) none none).run P w = .ok (.slice ao' (n - j) (c - j)) w := by
  obtain ⟨i, hi, hz, hsize, hby⟩ := info_parts hinf
  have he : P.elem t = e := by simp [Program.elem, ht]
  rw [run_slice_l w t ao n c (by rw [he]; exact ht) .i64 j (by omega) (by omega)]
  rw [he]
  simp [sizeOf, typeInfo, hi, hsize, sliced, Result.andThen, h']

/-- 'x[j:j+1]' as one step. -/
theorem run_cut1 (w : World) {t e : TypeId} {z : Value} {b : Nat} (ht : P.underlying t = some (.slice e)) (hinf : (P.info? e).map (fun i => (i.zero, i.size, i.bytes)) = some (some z, 1, b))
    (ao : Option Addr) (n c j : Nat) (hj : j < n) (hc : n ≤ c) {ao' : Option Addr} (h' : ao' = if c = j then ao else ao.map (fun x => x.add j)) :
    (Instr.slice t (.slice ao n c) (some (.int .i64 (j : Int))) (some (.int .i64 ((j : Int) + 1))) none).run P w = .ok (.slice ao' 1 (c - j)) w := by
  obtain ⟨i, hi, hz, hsize, hby⟩ := info_parts hinf
  have he : P.elem t = e := by simp [Program.elem, ht]
  rw [run_slice_lh w t ao n c (by rw [he]; exact ht) .i64 .i64 j ((j : Int) + 1) (by omega) (by omega) (by omega)]
  rw [he]
  simp [sizeOf, typeInfo, hi, hsize, sliced, Result.andThen, h']

/-- Only whether the second type is an integer's is looked at. -/
theorem run_append_types (w : World) {t tx e e' : TypeId} {i : TypeInfo} (ht : P.underlying t = some (.slice e)) (hx : P.underlying tx = some (.slice e')) (hi : P.info? e = some i) (ty : TypeId) (b : Option Addr) (n c : Nat) (x : Value) :
    (Builtin.append_ #[t, tx] ty #[.slice b n c, x]).run P w = (Builtin.append_ #[t, t] ty #[.slice b n c, x]).run P w := by
  simp [Builtin.append_, run_underlying ht, run_underlying hx, sizeOf, typeInfo, hi]

/-- 'v = append(v, x...)', v a slice that the call itself made (not nil), x whatever slice. -/
theorem wpList_append_rd (w : World) {ops : Array Oper} {rest : List Oper} {o : Oper} {a : Act} {Q : Exit → Act → World → Prop} (hgd : o.guard = none) (s x : Operand) (t tx : TypeId)
    (ho : o.op = .call { callee := .builtin .append, args := #[s, x], argTypes := #[t, tx] })
    (B : Nat) (e e' : TypeId) (z : Value) (bytes : Nat) (ht : P.underlying t = some (.slice e)) (htx : P.underlying tx = some (.slice e'))
    (hinf : (P.info? e).map (fun i => (i.zero, i.size, i.bytes)) = some (some z, 1, bytes)) (hzs : z.cells.size = 1)
    (g n cap : Nat) (xs : List Value) (hs : a.eval s = .slice (some ⟨g, 0, none⟩) n cap) (hown : w.ownsRow B e 1 (.slice (some ⟨g, 0, none⟩) n cap) n xs)
    (ao : Option Addr) (m c : Nat) (ys : List Value) (hx : a.eval x = .slice ao m c) (hr : Rd w ao m c ys) (h1 : ∀ u ∈ ys, u.oneCell' = true)
    (h63 : n + m ≤ maxLen) (hbytes : (n + m) * bytes ≤ 140737488355328) (hB : B ≤ w.heap.size)
    (h : ∀ g' cap' w', w'.ownsRow B e 1 (.slice (some ⟨g', 0, none⟩) (n + m) cap') (n + m) (xs ++ ys) → Below B w w' → wpList P ops Q rest (a.put o.dst (.slice (some ⟨g', 0, none⟩) (n + m) cap')) w') :
    wpList P ops Q (o :: rest) a w := by
  obtain ⟨i, hi, hz, hsize, hby⟩ := info_parts hinf
  refine wpList_plain hgd fun K hK => ?_
  have hl : ys.length = m := hr.len
  obtain ⟨v', w', hrun, hown', hgrow, hnil⟩ : ∃ v' w', (Builtin.append_ #[t, tx] o.type #[.slice (some ⟨g, 0, none⟩) n cap, .slice ao m c]).run P w = .ok v' w' ∧ w'.ownsRow B e 1 v' (n + m) (xs ++ ys) ∧ w.grownBy w' (some g) ∧ v' ≠ .slice none 0 0 := by
    rw [run_append_types w ht htx hi]
    cases ao with
    | none =>
      obtain ⟨rfl, rfl⟩ := hr.nil rfl
      have hy : ys = [] := List.eq_nil_of_length_eq_zero hl
      subst hy
      exact ⟨_, w, run_append_owned_none (P := P) w B t o.type e i 1 ht hi _ n xs hown, by simpa using hown, World.grownBy.refl _ _, by simp⟩
    | some ad =>
      obtain ⟨v', w', hr1, hr2, hr3, hr4⟩ := run_append_own (P := P) w B t o.type e i z 1 bytes ht hi hz hsize hby hzs (by decide) _ n xs hown ad m c ys (by simpa using hl) (hr.cell ad rfl) h1 h63 hbytes hB
      exact ⟨v', w', hr1, hr2, hr3, fun e => by have := (hr4.1 e).1; simp at this⟩
  have hg0 : B ≤ g := (hown.lt g rfl).1
  have hbel : Below B w w' := (Below.refl _ _).grown hgrow hB (fun k hk => by cases hk; exact hg0)
  have hsh : ∃ g' cap', v' = .slice (some ⟨g', 0, none⟩) (n + m) cap' := by
    rcases hown'.2 with ⟨h', _⟩ | ⟨g', cap', _, h', _⟩
    · exact absurd h' hnil
    · exact ⟨g', cap', h'⟩
  obtain ⟨g', cap', hv'⟩ := hsh
  subst hv'
  unfold Oper.wp
  simp [execOp, ho, resolve, invoke, builtin, hs, hx, hrun, Result.andThen]
  exact hK _ _ (h g' cap' w' hown' hbel)

/-- The same, the new length and the new cells under names of their own. -/
theorem wpList_append_to (w : World) {ops : Array Oper} {rest : List Oper} {o : Oper} {a : Act} {Q : Exit → Act → World → Prop} (hgd : o.guard = none) (s x : Operand) (t tx : TypeId)
    (ho : o.op = .call { callee := .builtin .append, args := #[s, x], argTypes := #[t, tx] })
    (B : Nat) (e e' : TypeId) (z : Value) (bytes : Nat) (ht : P.underlying t = some (.slice e)) (htx : P.underlying tx = some (.slice e'))
    (hinf : (P.info? e).map (fun i => (i.zero, i.size, i.bytes)) = some (some z, 1, bytes)) (hzs : z.cells.size = 1)
    (g n cap : Nat) (xs : List Value) (hs : a.eval s = .slice (some ⟨g, 0, none⟩) n cap) (hown : w.ownsRow B e 1 (.slice (some ⟨g, 0, none⟩) n cap) n xs)
    (ao : Option Addr) (m c : Nat) (ys : List Value) (hx : a.eval x = .slice ao m c) (hr : Rd w ao m c ys) (h1 : ∀ u ∈ ys, u.oneCell' = true)
    (N : Nat) (hN : Hid (n + m = N)) (zs : List Value) (hz : Hid (xs ++ ys = zs)) (h63 : N * bytes ≤ 140737488355328 ∧ N ≤ maxLen) (hB : B ≤ w.heap.size)
    (h : ∀ g' cap' w', w'.ownsRow B e 1 (.slice (some ⟨g', 0, none⟩) N cap') N zs → Below B w w' → wpList P ops Q rest (a.put o.dst (.slice (some ⟨g', 0, none⟩) N cap')) w') :
    wpList P ops Q (o :: rest) a w := by
  have h1N := hN.out
  have h1z := hz.out
  subst h1N
  subst h1z
  exact wpList_append_rd w hgd s x t tx ho B e e' z bytes ht htx hinf hzs g n cap xs hs hown ao m c ys hx hr h1 h63.2 h63.1 hB h

end
end Go.Proofs.Qxb6630784a
