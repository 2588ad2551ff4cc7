/-
  FnAppendEscapedDecodesBackCanonically, walked.
-/
import Derived.Test.Qxb6630751aEsc
namespace Go.Proofs.Qxb6630751a
open Go.RowKit

/-- What appendEscaped has written, whole. -/
def whole (zs : List Int) (t : ByteArray) : List Value := bytes (zs ++ Pl.esc (nums t))
theorem soFar_all (zs : List Int) (t : ByteArray) : soFar zs t t.size = whole zs t := by
  unfold soFar whole
  rw [List.take_of_length_le (by rw [nums_len]; exact Nat.le_refl _)]
theorem reach_all (n : Nat) (t : ByteArray) : reach n t t.size = n + (Pl.esc (nums t)).length := by
  unfold reach
  rw [List.take_of_length_le (by rw [nums_len]; exact Nat.le_refl _)]

theorem whole_head (zs : List Int) (t : ByteArray) {i : Nat} (h : i < zs.length) : (whole zs t)[i]? = (bytes zs)[i]? := by
  unfold whole bytes
  rw [List.map_append, List.getElem?_append_left (by simpa using h)]
theorem whole_at (zs : List Int) (t : ByteArray) {k : Nat} (hk : k < t.size) {c : Int} (hc : ((t[k]'hk).toNat : Int) = c) {i : Nat} (hi : i < (Pl.escB c).length) :
    (whole zs t)[reach zs.length t k + i]? = (bytes (Pl.escB c))[i]? := by
  have hk' : k < (nums t).length := by rw [nums_len]; exact hk
  have e := Pl.esc_at (nums t) hk'
  rw [nums_at t hk hk', hc] at e
  unfold whole reach bytes
  rw [e, List.map_append, List.getElem?_append_right (by simp; omega)]
  have e2 : zs.length + (Pl.esc (List.take k (nums t))).length + i - (zs.map (Value.int .u8)).length = (Pl.esc (List.take k (nums t))).length + i := by simp; omega
  rw [e2, List.map_append, List.getElem?_append_right (by simp)]
  have e3 : (Pl.esc (List.take k (nums t))).length + i - ((Pl.esc (List.take k (nums t))).map (Value.int .u8)).length = i := by simp
  rw [e3, List.map_append, List.getElem?_append_left (by simpa using hi)]
theorem reach_lt (n : Nat) (t : ByteArray) {k : Nat} (hk : k < t.size) {c : Int} (hc : ((t[k]'hk).toNat : Int) = c) : reach n t k + (Pl.escB c).length ≤ reach n t t.size := by
  have hk' : k < (nums t).length := by rw [nums_len]; exact hk
  have e := Pl.esc_at (nums t) hk'
  rw [nums_at t hk hk', hc] at e
  rw [reach_all]
  unfold reach
  rw [e]
  simp only [List.length_append]
  omega

/-- ZZappendEscaped. -/
theorem zz_any (v : Value) (n : Nat) (zs : List Int) (t : ByteArray) (w : World) (hown : w.ownsRow 0 5 1 v n (bytes zs)) (ht : t.size ≤ 1048576) (hn : n ≤ 8388608) :
    Calls Try.prog 7 #[v, .string t] w fun e w' => ∃ v', e = .returned v' ∧ w'.ownsRow 0 5 1 v' (reach n t t.size) (whole zs t) ∧ Grew w w' v v' := by
  go_enter Try.func7, Try.ntmps7
  go_wp2_with fail
  refine (esc_any v n zs t w hown ht hn).mono ?_
  rintro e w1 ⟨v', rfl, h1, h2⟩
  rw [soFar_all] at h1
  go_wp2
  go_ret
  exact ⟨v', rfl, h1, h2⟩

theorem own_lt {w : World} {v : Value} {n : Nat} {cs : List Value} (h : w.ownsRow 0 5 1 v n cs) : ∀ g, v.ownBlock = some g → g < w.heap.size := fun g hg => (h.lt g hg).2

set_option maxHeartbeats 2000000 in
set_option maxRecDepth 100000 in
theorem dec_walk (a0 : Option Addr) (n c0 : Nat) (zs : List Int) (t : ByteArray) (w : World) (h0 : Rd w a0 n c0 (bytes zs)) (ht : t.size ≤ maxLen) :
    Calls Try.prog 3 #[.slice a0 n c0, .string t] w fun e w' => e = .returned (.bool true) ∧ Below w.heap.size w w' := by
  have HZL : Hid (zs.length = n) := by have := h0.len; rw [bytes_len] at this; exact this
  go_enter Try.func3, Try.ntmps3
  go_wp2_with fail
  refine (bytes3 a0 n c0 t w (Nat.le_trans h0.le h0.max) ht).mono ?_
  rintro e w0 ⟨rfl, rfl⟩
  by_cases hsz : n + t.size ≤ 1048576
  case neg =>
    have hd : decide (n + t.size ≤ 1048576) = false := decide_eq_false hsz
    rw [hd]
    go_wp2
    go_ret
    exact ⟨rfl, Below.refl _ _⟩
  have hd : decide (n + t.size ≤ 1048576) = true := decide_eq_true hsz
  rw [hd]
  clear hd ht
  have hd1 : decide ((1048576 : Int) < (n : Int)) = false := decide_eq_false (by omega)
  have hd2 : decide ((1048576 : Int) < (t.size : Int)) = false := decide_eq_false (by omega)
  have hd3 : decide ((1048576 : Int) < (n : Int) + (t.size : Int)) = false := decide_eq_false (by omega)
  go_wp2_with fail
  refine (copy_any a0 n c0 zs _ h0 (by omega)).mono ?_
  rintro e w1 ⟨v1, rfl, k1⟩
  go_wp2_with fail
  refine (copy_any a0 n c0 zs _ (h0.carry k1.below) (by omega)).mono ?_
  rintro e w2 ⟨v2, rfl, k2⟩
  go_wp2_with fail
  refine (zz_any v2 n zs t _ k2.own (by omega) (by omega)).mono ?_
  rintro e w3 ⟨v3, rfl, o3, g3⟩
  have hs1 := k1.below.size
  have hs2 := k2.below.size
  have hB3 : Below w0.heap.size w0 w3 := (k1.below.trans (k2.below.mono hs1)).trans (g3.below (by omega) (fun g hg => by have := k2.new g hg; omega))
  obtain ⟨a1, c1, rfl, r1, b1⟩ := own_rd k1.own
  have l1 := own_lt k1.own
  replace r1 := (r1.carry k2.below).grew g3 (fun b hb ad had => by have h1 := k2.new b hb; have h2 := l1 _ (b1 ad had); omega)
  obtain ⟨a3, c3, rfl, r3, b3⟩ := own_rd o3
  have hN := reach_all n t
  have hr3 := reach_le n t t.size
  obtain ⟨N, hNN⟩ : ∃ N, N = reach n t t.size := ⟨_, rfl⟩
  have HN : Hid (N = reach n t t.size) := hNN
  rw [← hNN] at r3 hr3 hN ⊢
  have hnN : n ≤ N := by omega
  have hd4 : decide (N < n) = false := decide_eq_false (by omega)
  clear hNN hN k1 k2 o3 g3 b1 b3 l1 hs1 hs2
  go_wp2_with fail
  go_loopw [7] (fun i wr => ∃ k q : Nat, i = .int .i64 k ∧ k ≤ n ∧ wr = w3.drewN q) (fun i _ => n - (intOf i).toNat)
  case atStart => exact ⟨0, 0, rfl, Nat.zero_le _, rfl⟩
  case round =>
    obtain ⟨k, q, rfl, hk, rfl⟩ := hrel
    by_cases hlt : k < n
    · obtain ⟨g1, o1, rfl, hg1, hc1⟩ := r1.at (by omega)
      obtain ⟨g3, o3, rfl, hg3, hc3⟩ := r3.at (by omega)
      have e1 := hc1 k _ (bytes_at (by rw [HZL.out]; exact hlt))
      have e3 := hc3 k _ ((whole_head zs t (by rw [HZL.out]; exact hlt)).trans (bytes_at (by rw [HZL.out]; exact hlt)))
      clear hc1 hc3 r1 r3
      have hlt' : (k : Int) < (n : Int) := by omega
      have hlt2 : (k : Int) < (N : Int) := by omega
      go_wp2
      go_quiet (fail)
      go_wp2
      go_roundw
      case rel => exact ⟨k + 1, q + nq, by go_num, by omega, by simp⟩
      case measure => simp [intOf]; omega
    · replace r3 := r3.drewN q
      replace hB3 := below_drewN hB3 q
      obtain ⟨w4, hw4⟩ : ∃ w4, w4 = w3.drewN q := ⟨_, rfl⟩
      rw [← hw4] at r3 hB3 ⊢
      clear hw4 hk r1
      go_wp2_with fail
      go_loopg [8, 9] t.size (fun gg x y wr => ∃ m : Nat, gg = t.size - m ∧ m ≤ t.size ∧ x = .int .i64 m ∧ y = .int .i64 (reach n t m : Nat) ∧ wr = w4)
      case atStart => exact ⟨0, rfl, Nat.zero_le _, rfl, by rw [reach_zero], rfl⟩
      case round =>
        obtain ⟨m, hgg, hm, rfl, rfl, rfl⟩ := hrel
        have HGG : Hid _ := hgg
        clear hgg
        by_cases hmt : m < t.size
        · have hmt' : (m : Int) < (t.size : Int) := by omega
          have hcb := (t[m]'hmt).toNat_lt
          obtain ⟨c, hc⟩ : ∃ c : Int, ((t[m]'hmt).toNat : Int) = c := ⟨_, rfl⟩
          have hidx : ∀ wx, (Instr.index 9 (.string t) (.int .i64 (m : Int))).run Try.prog wx = .ok (.int .u8 c) wx := by
            intro wx
            rw [run_index_string wx 9 t .i64 m Try.underlying9, dif_pos ⟨by omega, hmt'⟩]
            simp [hc]
          have hc0 : 0 ≤ c := by omega
          have hc1 : c ≤ 255 := by omega
          have hrl := reach_lt n t hmt hc
          rw [← HN.out] at hrl
          have hN1 : 0 < N := by have : 0 < (Pl.escB c).length := by { unfold Pl.escB; split <;> simp }
                                 omega
          obtain ⟨g3, o3, rfl, hg3, hc3⟩ := r3.at hN1
          have hat := fun i hi => whole_at zs t hmt hc (i := i) hi
          rw [HZL.out] at hat
          have hcc : (c != c) = false := by simp
          cases hs : Pl.safe c with
          | true =>
            rw [Pl.escB_safe hs] at hrl hat
            have x0 := hc3 _ _ (hat 0 (by simp))
            have st := (step_safe n zs t hmt hc hs).1
            have ST : Hid (reach n t m + 1 = reach n t (m + 1)) := st
            have h37 : (c == 37) = false := beq_eq_false_iff_ne.2 (by rw [Pl.safe_true] at hs; omega)
            simp only [List.length_cons, List.length_nil] at hrl
            simp only [Nat.add_zero] at x0
            have hj : ((reach n t m : Nat) : Int) < (N : Int) := by omega
            clear hc hat hc3 st r3
            go_wp2_with fail
            refine (safe_yes c _ hs).mono ?_
            rintro e w5 ⟨rfl, rfl⟩
            go_wp2
            go_roundg (t.size - (m + 1))
            case measure => have := HGG.out; omega
            case rel => exact ⟨m + 1, rfl, by omega, by go_num, by rw [← ST.out]; go_num, rfl⟩
          | false =>
            rw [Pl.escB_not hs] at hrl hat
            have x0 := hc3 _ _ (hat 0 (by simp))
            have x1 := hc3 _ _ (hat 1 (by simp))
            have x2 := hc3 _ _ (hat 2 (by simp))
            have st := (step_not n zs t hmt hc hs).1
            have ST : Hid (reach n t m + 3 = reach n t (m + 1)) := st
            simp only [List.length_cons, List.length_nil] at hrl
            simp only [Nat.add_zero] at x0
            have hj : ((reach n t m : Nat) : Int) < (N : Int) := by omega
            have hj1 : ((reach n t m : Nat) : Int) + 1 < (N : Int) := by omega
            have hj2 : ((reach n t m : Nat) : Int) + 2 < (N : Int) := by omega
            have hj3 : ¬ (N : Int) - ((reach n t m : Nat) : Int) < 3 := by omega
            have hsum : c / 16 * 16 + c % 16 = c := by omega
            have hh0 : 0 ≤ c / 16 := by omega
            have hh1 : c / 16 < 16 := by omega
            have hl0 : 0 ≤ c % 16 := by omega
            have hl1 : c % 16 < 16 := by omega
            clear hc hat hc3 st r3
            go_wp2_with fail
            refine (hex_any (c / 16) _ hh0 hh1).mono ?_
            rintro e w5 ⟨rfl, rfl⟩
            go_wp2_with fail
            refine (hex_any (c % 16) _ hl0 hl1).mono ?_
            rintro e w6 ⟨rfl, rfl⟩
            go_wp2_with fail
            refine (safe_no c _ hs).mono ?_
            rintro e w7 ⟨rfl, rfl⟩
            go_wp2
            go_roundg (t.size - (m + 1))
            case measure => have := HGG.out; omega
            case rel => exact ⟨m + 1, rfl, by omega, by go_num, by rw [← ST.out]; go_num, rfl⟩
        · have hmn : m = t.size := by omega
          subst hmn
          rw [← HN.out]
          go_wp2
          go_ret
          exact ⟨rfl, hB3⟩

end Go.Proofs.Qxb6630751a
