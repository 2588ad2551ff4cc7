/-
  Laws of this seat's own, over any program: what a slice reads as ('Rd'), what becomes of it as the world grows, and 'append' onto a slice that the call itself made (or that is nil): which blocks it may have written ('Grew').
-/
import Derived.WalkKit
import Derived.WalkSmall
import Derived.KernelRfl
import Derived.Deep.Slices
import Derived.Deep.RegionLaw
namespace Go.Proofs.Qxb6630751a
open Go.RowKit

/-- The slice value '.slice ao n c' reads, in w, as the cells 'vs' (one cell an element). -/
structure Rd (w : World) (ao : Option Addr) (n c : Nat) (vs : List Value) : Prop where
  len : vs.length = n
  le : n ≤ c
  max : c ≤ maxLen
  nil : ao = none → n = 0 ∧ c = 0
  cell : ∀ ad, ao = some ad → ∀ i u, vs[i]? = some u → w.cell? (ad.add i) = some u

theorem Rd.at {w : World} {ao : Option Addr} {n c : Nat} {vs : List Value} (h : Rd w ao n c vs) (hn : 0 < n) :
    ∃ b off, ao = some ⟨b, off, none⟩ ∧ b < w.heap.size ∧ ∀ i u, vs[i]? = some u → w.cell? ⟨b, off + i, none⟩ = some u := by
  cases ao with
  | none => have := (h.nil rfl).1; omega
  | some ad =>
    obtain ⟨b, off, spot⟩ := ad
    have h0 : vs[0]? = some (vs[0]'(by rw [h.len]; exact hn)) := List.getElem?_eq_getElem _
    have hc0 := h.cell _ rfl 0 _ h0
    have hs : spot = none := by simpa [Addr.add] using World.cell?_spot hc0
    subst hs
    refine ⟨b, off, rfl, World.block_lt_of_cell? _ _ hc0, fun i u hu => ?_⟩
    have := h.cell _ rfl i u hu
    rwa [Addr.add_lit] at this

/-- As long as what was there stands, the slice reads as it did. -/
theorem Rd.carry {w w' : World} {ao : Option Addr} {n c : Nat} {vs : List Value} (h : Rd w ao n c vs) (hb : Below w.heap.size w w') : Rd w' ao n c vs :=
  ⟨h.len, h.le, h.max, h.nil, fun ad had i u hu => by
    have hc := h.cell ad had i u hu
    rw [hb.cell (World.block_lt_of_cell? _ _ hc)]
    exact hc⟩

theorem Rd.drewN {w : World} {ao : Option Addr} {n c : Nat} {vs : List Value} (h : Rd w ao n c vs) (k : Nat) : Rd (w.drewN k) ao n c vs := h.carry (below_drewN (Below.refl _ _) k)
theorem Rd.drew {w : World} {ao : Option Addr} {n c : Nat} {vs : List Value} (h : Rd w ao n c vs) : Rd w.drew ao n c vs := h.carry (Below.refl _ _).drew
theorem Rd.alloc {w : World} {ao : Option Addr} {n c : Nat} {vs : List Value} (h : Rd w ao n c vs) (o : Obj) : Rd (w.alloc o) ao n c vs := h.carry ((Below.refl _ _).alloc (Nat.le_refl _) o)

theorem Rd.ofNil (w : World) : Rd w none 0 0 [] := ⟨rfl, Nat.le_refl _, Nat.zero_le _, fun _ => ⟨rfl, rfl⟩, fun _ h => by cases h⟩

/-- What the call owns reads as what it owns. -/
theorem Rd.ofOwn {w : World} {B : Nat} {e : TypeId} {g n cap : Nat} {vs : List Value} (h : w.ownsRow B e 1 (.slice (some ⟨g, 0, none⟩) n cap) n vs) : Rd w (some ⟨g, 0, none⟩) n cap vs := by
  have hl : vs.length = n := by simpa using h.1
  refine ⟨hl, ?_, ?_, (fun e => by cases e), ?_⟩
  · rcases h.2 with ⟨h', _⟩ | ⟨g', cap', cur, h', _, _, hnc, hcm, _⟩
    · simp at h'
    · simp at h'; omega
  · rcases h.2 with ⟨h', _⟩ | ⟨g', cap', cur, h', _, _, hnc, hcm, _⟩
    · simp at h'
    · simp at h'; omega
  · intro ad had i u hu
    cases had
    exact h.cells (g := g) rfl i u hu

/-- 'x[:k]'. -/
theorem Rd.take {w : World} {ao : Option Addr} {n c : Nat} {vs : List Value} (h : Rd w ao n c vs) {k : Nat} (hk : k ≤ n) : Rd w ao k c (vs.take k) :=
  ⟨by rw [List.length_take, h.len]; omega, by have := h.le; omega, h.max, fun e => by have := h.nil e; omega, fun ad had i u hu => by
    rw [List.getElem?_take] at hu
    split at hu
    · exact h.cell ad had i u hu
    · cases hu⟩

/-- 'x[k:]', whatever the address at the capacity's end. -/
theorem Rd.drop {w : World} {b off n c : Nat} {vs : List Value} (h : Rd w (some ⟨b, off, none⟩) n c vs) {k : Nat} (hk : k ≤ n) {ad : Addr} (had : k < n → ad = ⟨b, off + k, none⟩) :
    Rd w (some ad) (n - k) (c - k) (vs.drop k) :=
  ⟨by rw [List.length_drop, h.len], by have := h.le; omega, by have := h.max; omega, (fun e => by cases e), fun ad' had' i u hu => by
    cases had'
    have hi : i < n - k := by
      have := (List.getElem?_eq_some_iff.1 hu).1
      rw [List.length_drop, h.len] at this
      exact this
    rw [had (by omega), Addr.add_lit, Nat.add_assoc]
    rw [List.getElem?_drop] at hu
    have := h.cell _ rfl (k + i) u hu
    rwa [Addr.add_lit] at this⟩

/-- 'x[k:]', whatever x: the address as the model reckons it. -/
theorem Rd.dropG {w : World} {ao ao' : Option Addr} {n c : Nat} {vs : List Value} (h : Rd w ao n c vs) {k : Nat} (hk : k ≤ n) (h' : ao' = if c = k then ao else ao.map (fun x => x.add k)) :
    Rd w ao' (n - k) (c - k) (vs.drop k) := by
  have hle := h.le
  refine ⟨by rw [List.length_drop, h.len], by omega, by have := h.max; omega, fun e => ?_, fun ad' had' i u hu => ?_⟩
  · by_cases hc : c = k
    · omega
    · rw [if_neg hc, e] at h'
      cases ao with
      | none => have := h.nil rfl; omega
      | some ad => simp at h'
  · have hi : i < n - k := by
      have := (List.getElem?_eq_some_iff.1 hu).1
      rw [List.length_drop, h.len] at this
      exact this
    have hc : ¬ c = k := by omega
    rw [if_neg hc] at h'
    cases ao with
    | none => rw [had'] at h'; simp at h'
    | some ad =>
      rw [had'] at h'
      simp only [Option.map_some, Option.some.injEq] at h'
      subst h'
      rw [List.getElem?_drop] at hu
      have hcell := h.cell _ rfl (k + i) u hu
      rw [Go.Deep.add_add]
      exact hcell

/-- From w to w' only v's own block has been written, and v' lies there or in a new block. -/
structure Grew (w w' : World) (v v' : Value) : Prop where
  grown : w.grownBy w' v.ownBlock
  from' : ∀ g, v'.ownBlock = some g → v.ownBlock = some g ∨ w.heap.size ≤ g

theorem Grew.refl (w : World) (v : Value) : Grew w w v v := ⟨World.grownBy.refl _ _, fun _ h => .inl h⟩
theorem Grew.alloc (w : World) (o : Obj) (v : Value) : Grew w (w.alloc o) v v := ⟨World.grownBy_alloc w o _, fun _ h => .inl h⟩
theorem Grew.drew (w : World) (v : Value) : Grew w w.drew v v := ⟨⟨rfl, rfl, rfl, Nat.le_refl _, fun _ _ _ => rfl⟩, fun _ h => .inl h⟩
theorem Grew.trans {a b c : World} {v v1 v2 : Value} (h : Grew a b v v1) (k : Grew b c v1 v2) : Grew a c v v2 := by
  refine ⟨⟨k.grown.os.trans h.grown.os, k.grown.tape.trans h.grown.tape, k.grown.output.trans h.grown.output, Nat.le_trans h.grown.size k.grown.size, fun i hi hne => ?_⟩, fun g hg => ?_⟩
  · have h1 := h.grown.block i hi hne
    have h2 := k.grown.block i (Nat.lt_of_lt_of_le hi h.grown.size) (fun e => by
      rcases h.from' i e.symm with h' | h'
      · exact hne h'.symm
      · omega)
    exact h2.trans h1
  · rcases k.from' g hg with h' | h'
    · exact h.from' g h'
    · exact .inr (Nat.le_trans h.grown.size h')
/-- A slice that lies elsewhere reads as it did. -/
theorem Rd.grew {w w' : World} {v v' : Value} {ao : Option Addr} {n c : Nat} {vs : List Value} (h : Rd w ao n c vs) (hg : Grew w w' v v') (hne : ∀ b, v.ownBlock = some b → ∀ ad, ao = some ad → ad.block ≠ b) : Rd w' ao n c vs :=
  ⟨h.len, h.le, h.max, h.nil, fun ad had i u hu => by
    have hc := h.cell ad had i u hu
    refine hg.grown.cell hc (fun e => ?_)
    have hb : (ad.add i).block = ad.block := by unfold Addr.add; split <;> rfl
    rw [hb] at e
    exact hne ad.block e.symm ad had rfl⟩
theorem Grew.below {w w' : World} {v v' : Value} (h : Grew w w' v v') {B : Nat} (hB : B ≤ w.heap.size) (hv : ∀ g, v.ownBlock = some g → B ≤ g) : Below B w w' :=
  (Below.refl _ _).grown h.grown hB (fun k hk => hv k hk)

/-- What the call owns, nil or not, has a shape and reads as what it owns. -/
theorem own_rd {w : World} {B : Nat} {e : TypeId} {v : Value} {n : Nat} {vs : List Value} (h : w.ownsRow B e 1 v n vs) :
    ∃ ao c, v = .slice ao n c ∧ Rd w ao n c vs ∧ ∀ ad, ao = some ad → v.ownBlock = some ad.block := by
  rcases h.2 with ⟨rfl, rfl⟩ | ⟨g, cap, cur, rfl, _⟩
  · have : vs = [] := List.eq_nil_of_length_eq_zero (by simpa using h.1)
    subst this
    exact ⟨none, 0, rfl, Rd.ofNil _, fun _ h => by cases h⟩
  · exact ⟨_, cap, rfl, Rd.ofOwn h, fun ad had => by cases had; rfl⟩

section
variable {P : Program}

theorem append_grew (w : World) (t ty e : TypeId) {z : Value} {bytes : Nat} (ht : P.underlying t = some (.slice e))
    (hinf : (P.info? e).map (fun i => (i.zero, i.size, i.bytes)) = some (some z, 1, bytes)) (hzs : z.cells.size = 1)
    (v : Value) (n : Nat) (xs : List Value) (hown : w.ownsRow 0 e 1 v n xs) (ad : Addr) (m c : Nat) (ys : List Value) (hr : Rd w (some ad) m c ys) (h1 : ∀ u ∈ ys, u.oneCell' = true)
    (hb : (n + m) * bytes ≤ 140737488355328 ∧ n + m ≤ maxLen) :
    ∃ v' w', (Builtin.append_ #[t, t] ty #[v, .slice (some ad) m c]).run P w = .ok v' w' ∧ w'.ownsRow 0 e 1 v' (n + m) (xs ++ ys) ∧ Grew w w' v v' := by
  obtain ⟨i, hi, hz, hsize, hby⟩ := info_parts hinf
  have hl : ys.length = m * 1 := by simpa using hr.len
  have weak : ∀ {w' : World} {B : Nat} {v' : Value} {k : Nat} {zs : List Value}, w'.ownsRow B e 1 v' k zs → w'.ownsRow 0 e 1 v' k zs := by
    rintro w' B v' k zs ⟨h1, h2 | ⟨g, cap, cur, hv, hg, r⟩⟩
    · exact ⟨h1, .inl h2⟩
    · exact ⟨h1, .inr ⟨g, cap, cur, hv, Nat.zero_le _, r⟩⟩
  rcases hown.2 with ⟨rfl, rfl⟩ | ⟨g, cap, cur, rfl, _, hg, hnc, hcm, hcs, htake⟩
  · have hx : xs = [] := List.eq_nil_of_length_eq_zero (by simpa using hown.1)
    subst hx
    obtain ⟨v', w', r1, r2, r3, _⟩ := run_append_own (P := P) w w.heap.size t ty e i z 1 bytes ht hi hz hsize hby hzs (by decide) (.slice none 0 0) 0 [] (World.ownsRow_nil w _ e 1) ad m c ys hl (hr.cell ad rfl) h1 hb.2 hb.1 (Nat.le_refl _)
    exact ⟨v', w', r1, weak r2, r3, fun k hk => .inr (r2.lt k hk).1⟩
  · by_cases hroom : n + m ≤ cap
    · obtain ⟨w', r1, r2, r3⟩ := run_append_fits (P := P) w 0 t ty e i 1 ht hi hsize g n cap xs hown ad m c ys hl (hr.cell ad rfl) h1 hroom
      exact ⟨_, w', r1, r2, r3, fun k hk => .inl hk⟩
    · obtain ⟨v', w', r1, r2, r3⟩ := run_append_arg_grows (P := P) w t ty e i z 1 bytes ht hi hz hsize hby hzs (by decide) ⟨g, 0, none⟩ n cap xs hown.1 (hown.cells (g := g) rfl) ad m c ys hl (hr.cell ad rfl) (by omega) hb.2 hb.1
      exact ⟨v', w', r1, weak r2, ⟨r3.os, r3.tape, r3.output, r3.size, fun k hk _ => r3.block k hk (by simp)⟩, fun k hk => .inr (r2.lt k hk).1⟩

theorem wpList_append_grew (w : World) {ops : Array Oper} {rest : List Oper} {o : Oper} {a : Act} {Q : Exit → Act → World → Prop} (hgd : o.guard = none) (s x : Operand) (t : TypeId)
    (ho : o.op = .call { callee := .builtin .append, args := #[s, x], argTypes := #[t, t] })
    (e : TypeId) (z : Value) (bytes : Nat) (ht : P.underlying t = some (.slice e)) (hinf : (P.info? e).map (fun i => (i.zero, i.size, i.bytes)) = some (some z, 1, bytes)) (hzs : z.cells.size = 1)
    (v : Value) (n : Nat) (xs : List Value) (hs : a.eval s = v) (hown : w.ownsRow 0 e 1 v n xs) (ad : Addr) (m c : Nat) (ys : List Value) (hx : a.eval x = .slice (some ad) m c) (hr : Rd w (some ad) m c ys) (h1 : ∀ u ∈ ys, u.oneCell' = true)
    (N : Nat) (hN : Hid (n + m = N)) (zs : List Value) (hz : Hid (xs ++ ys = zs)) (hb : N * bytes ≤ 140737488355328 ∧ N ≤ maxLen)
    (h : ∀ v' w', w'.ownsRow 0 e 1 v' N zs → Grew w w' v v' → wpList P ops Q rest (a.put o.dst v') w') : wpList P ops Q (o :: rest) a w := by
  have h1N := hN.out
  have h1z := hz.out
  subst h1N
  subst h1z
  obtain ⟨v', w', hrun, r1, r2⟩ := append_grew (P := P) w t o.type e ht hinf hzs v n xs hown ad m c ys hr h1 hb
  refine wpList_plain hgd fun K hK => ?_
  unfold Oper.wp
  simp [execOp, ho, resolve, invoke, builtin, hs, hx, hrun, Result.andThen]
  exact hK _ _ (h v' w' r1 r2)

theorem step_append_grew {ops : Array Oper} {o : Oper} {a : Act} {w : World} {K : Act → World → Prop} {Q : Exit → Act → World → Prop} {E : Prop} (hgd : o.guard = none) (s x : Operand) (t : TypeId)
    (ho : o.op = .call { callee := .builtin .append, args := #[s, x], argTypes := #[t, t] })
    (e : TypeId) (z : Value) (bytes : Nat) (ht : P.underlying t = some (.slice e)) (hinf : (P.info? e).map (fun i => (i.zero, i.size, i.bytes)) = some (some z, 1, bytes)) (hzs : z.cells.size = 1)
    (v : Value) (n : Nat) (xs : List Value) (hs : a.eval s = v) (hown : w.ownsRow 0 e 1 v n xs) (ad : Addr) (m c : Nat) (ys : List Value) (hx : a.eval x = .slice (some ad) m c) (hr : Rd w (some ad) m c ys) (h1 : ∀ u ∈ ys, u.oneCell' = true)
    (N : Nat) (hN : Hid (n + m = N)) (zs : List Value) (hz : Hid (xs ++ ys = zs)) (hb : N * bytes ≤ 140737488355328 ∧ N ≤ maxLen)
    (h : ∀ v' w', w'.ownsRow 0 e 1 v' N zs → Grew w w' v v' → K (a.put o.dst v') w') : if Region.wanted o (yielded ops a.tmps) = true then Oper.wp P o a w K Q else E := by
  have hw : Region.wanted o (yielded ops a.tmps) = true := by simp [Region.wanted, hgd]
  rw [if_pos hw]
  have h1N := hN.out
  have h1z := hz.out
  subst h1N
  subst h1z
  obtain ⟨v', w', hrun, r1, r2⟩ := append_grew (P := P) w t o.type e ht hinf hzs v n xs hown ad m c ys hr h1 hb
  unfold Oper.wp
  simp [execOp, ho, resolve, invoke, builtin, hs, hx, hrun, Result.andThen]
  exact h v' w' r1 r2

end
end Go.Proofs.Qxb6630751a
