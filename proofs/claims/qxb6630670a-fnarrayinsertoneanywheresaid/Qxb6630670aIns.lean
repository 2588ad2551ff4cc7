import Derived.Test.Qxb6630670aJoin
import Derived.Test.Qxb6630670aPlain2
namespace Go.Proofs.Qxb6630670a
open Go.RowKit

/-- All that came in is short. -/
structure ShortX (zss : List (List Int)) (n lx : Nat) : Prop where
  items : Short zss n
  x : lx ≤ 1048576

set_option maxHeartbeats 800000 in
/-- zzBytes_FnArrayInsertOneAnywhere: it answers, and touches nothing. -/
theorem bytesIns_any (ao : Option Addr) (n c : Nat) (zss : List (List Int)) (k0 : Int) (ax : Option Addr) (lx cx : Nat) (w : World) (h : Items w ao n c zss) (hn : n ≤ maxLen) (hlx : lx ≤ maxLen) :
    Calls Try.prog 8 #[.slice ao n c, .int .i64 k0, .slice ax lx cx] w fun e w' => Answers (ShortX zss n lx) e ∧ w' = w := by
  unfold maxLen at hn hlx
  by_cases hbig : 1048576 < n
  · have hbig' : (1048576 : Int) < (n : Int) := by omega
    go_enter Try.func8, Try.ntmps8
    go_wp2
    go_ret
    exact ⟨answers_no _, rfl⟩
  · have hd : decide ((1048576 : Int) < (n : Int)) = false := decide_eq_false (by omega)
    have hn2 : n ≤ 1048576 := by omega
    clear hbig hn
    go_enter Try.func8, Try.ntmps8
    go_wp2
    go_loop [7, 8] (fun z i => ∃ (k : Nat) (s : Int), k ≤ n ∧ i = .int .i64 k ∧ z = .int .i64 s ∧ 0 ≤ s ∧ s ≤ 1048576 ∧ Short zss k) (fun _ i => n - (intOf i).toNat)
    case atStart => exact ⟨0, n, Nat.zero_le _, rfl, rfl, by omega, by omega, fun i hi => by omega⟩
    case round =>
      obtain ⟨k, s, hk, rfl, rfl, hs0, hs1, hsh⟩ := hrel
      by_cases hlt : k < n
      · obtain ⟨b, off, a, l, c', rfl, hb, hc, hr, hl, hlm⟩ := h.at hlt
        unfold maxLen at hlm
        have HL : Hid ((zAt zss k).length = l) := hl
        clear hr hl h
        have hlt' : (k : Int) < (n : Int) := by omega
        by_cases hl1 : 1048576 < l
        · have hl1' : (1048576 : Int) < (l : Int) := by omega
          go_wp2
          go_ret
          exact ⟨answers_no _, rfl⟩
        · have hl1' : ¬ (1048576 : Int) < (l : Int) := by omega
          have hl2 : (l : Int) ≤ 1048576 := by omega
          clear hl1 hlm
          by_cases hs2 : (1048576 : Int) < s + (l : Int)
          · go_wp2
            go_ret
            exact ⟨answers_no _, rfl⟩
          · go_wp2
            go_round
            case rel => exact ⟨k + 1, s + l, by omega, by go_num, rfl, by omega, by omega, short_next hsh (by rw [HL.out]; omega)⟩
            case measure => simp [intOf]; omega
      · have hsh' : Short zss n := by rwa [show k = n by omega] at hsh
        by_cases hx1 : 1048576 < lx
        · have hx1' : (1048576 : Int) < (lx : Int) := by omega
          go_wp2
          go_ret
          exact ⟨answers_no _, rfl⟩
        · have hx1' : ¬ (1048576 : Int) < (lx : Int) := by omega
          have hx2 : lx ≤ 1048576 := by omega
          by_cases hs2 : (1048576 : Int) < s + (lx : Int)
          · go_wp2
            go_ret
            exact ⟨answers_no _, rfl⟩
          · go_wp2
            go_ret
            exact ⟨answers_yes ⟨hsh', hx2⟩, rfl⟩

/-- The list with x put in. -/
def putIn {α : Type} (l : List α) (x : α) (p : Nat) : List α := l.take p ++ (x :: l.drop p)
theorem putIn_before {α : Type} (l : List α) (x : α) {p i : Nat} (hp : p ≤ l.length) (h : i < p) : (putIn l x p)[i]? = l[i]? := by
  unfold putIn
  rw [List.getElem?_append_left (by simp; omega), List.getElem?_take, if_pos h]
theorem putIn_here {α : Type} (l : List α) (x : α) {p : Nat} (hp : p ≤ l.length) : (putIn l x p)[p]? = some x := by
  unfold putIn
  rw [List.getElem?_append_right (by simp; omega)]
  simp [Nat.min_eq_left hp]
theorem putIn_behind {α : Type} (l : List α) (x : α) {p : Nat} (hp : p ≤ l.length) (i : Nat) : (putIn l x p)[p + 1 + i]? = l[p + i]? := by
  unfold putIn
  rw [List.getElem?_append_right (by simp; omega)]
  have e : p + 1 + i - (List.take p l).length = i + 1 := by simp; omega
  rw [e, List.getElem?_cons_succ, List.getElem?_drop]
theorem putIn_len {α : Type} (l : List α) (x : α) (p : Nat) (hp : p ≤ l.length) : (putIn l x p).length = l.length + 1 := by simp [putIn]; omega

theorem put_of (zss : List (List Int)) (xs : List Int) {p : Nat} (hp : p ≤ zss.length) : Pl.Put (zAt zss) (zAt (putIn zss xs p)) xs p :=
  ⟨fun i hi => by unfold zAt; rw [putIn_before zss xs hp hi], by unfold zAt; rw [putIn_here zss xs hp]; rfl, fun i => by unfold zAt; rw [putIn_behind zss xs hp i]⟩

/-- The items with x put in, off the cells. -/
theorem Items.putIn {w w' : World} {ao : Option Addr} {n c : Nat} {zss : List (List Int)} {vs : List Value} (hr : Rd w ao n c vs) (hl : zss.length = n)
    (hi : ∀ (i : Nat) (u : Value), vs[i]? = some u → ∃ a l c', u = Value.slice a l c' ∧ Rd w a l c' (bytes (zss[i]?.getD [])))
    (hb : Below w.heap.size w w') {ax : Option Addr} {lx cx : Nat} {xs : List Int} (hx : Rd w ax lx cx (bytes xs)) {p : Nat} (hp : p ≤ n) {ao' : Option Addr} {c' : Nat}
    (hr' : Rd w' ao' (n + 1) c' (Go.Proofs.Qxb6630670a.putIn vs (.slice ax lx cx) p)) : Items w' ao' (n + 1) c' (Go.Proofs.Qxb6630670a.putIn zss xs p) := by
  have hpv : p ≤ vs.length := by rw [hr.len]; exact hp
  have hpz : p ≤ zss.length := by rw [hl]; exact hp
  refine ⟨_, hr', by rw [putIn_len _ _ _ hpz, hl], fun i u hu => ?_⟩
  by_cases h1 : i < p
  · rw [putIn_before _ _ hpv h1] at hu
    rw [putIn_before _ _ hpz h1]
    obtain ⟨a, l, c'', rfl, h'⟩ := hi i u hu
    exact ⟨a, l, c'', rfl, h'.carry hb⟩
  · by_cases h2 : i = p
    · subst h2
      rw [putIn_here _ _ hpv] at hu
      rw [putIn_here _ _ hpz]
      cases hu
      exact ⟨ax, lx, cx, rfl, hx.carry hb⟩
    · obtain ⟨j, rfl⟩ : ∃ j, i = p + 1 + j := ⟨i - (p + 1), by omega⟩
      rw [putIn_behind _ _ hpv] at hu
      rw [putIn_behind _ _ hpz]
      obtain ⟨a, l, c'', rfl, h'⟩ := hi _ u hu
      exact ⟨a, l, c'', rfl, h'.carry hb⟩

theorem Items.slices {w : World} {zss : List (List Int)} {vs : List Value}
    (hi : ∀ (i : Nat) (u : Value), vs[i]? = some u → ∃ a l c', u = Value.slice a l c' ∧ Rd w a l c' (bytes (zss[i]?.getD []))) : ∀ u ∈ vs, u.oneCell' = true := by
  intro u hu
  obtain ⟨i, hi', rfl⟩ := List.getElem_of_mem hu
  obtain ⟨a, l, c', e, _⟩ := hi i _ (List.getElem?_eq_getElem hi')
  rw [e]
  rfl

end Go.Proofs.Qxb6630670a
