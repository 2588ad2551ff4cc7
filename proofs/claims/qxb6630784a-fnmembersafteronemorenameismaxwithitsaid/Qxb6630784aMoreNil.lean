/-
  FnMembersAfterOneMoreNameIsMaxWithIt, walked where there is no channel.
-/
import Derived.Test.Qxb6630784aMore0
import Derived.Test.Qxb6630784aJoin
namespace Go.Proofs.Qxb6630784a
open Go.RowKit

set_option maxHeartbeats 3200000 in
set_option maxRecDepth 100000 in
theorem more_nil (sa : Option Addr) (n cs : Nat) (ss : List Int) (ao : Option Addr) (c : Nat) (a0 s ch0 pos0 k : Int) (w : World) (hs : Rd w sa n cs (ints ss)) (hi : Items w ao 0 c [])
    (hs0 : -9223372036854775808 ≤ s) (hs1 : s ≤ 9223372036854775807) (hk0 : -9223372036854775808 ≤ k) (hk1 : k ≤ 9223372036854775807) :
    Calls Try.prog 4 #[.slice sa n cs, .slice ao 0 c, .int .i64 a0, .int .i64 s, .int .i64 ch0, .int .i64 pos0, .int .i64 k] w fun e w' => e = .returned (.bool true) ∧ Below w.heap.size w w' := by
  have HSL : Hid (ss.length = n) := by have := hs.len; rw [ints_len] at this; exact this
  have hn63 := Nat.le_trans hs.le hs.max
  have hm63 : 0 ≤ maxLen := Nat.zero_le _
  go_enter Try.func4, Try.ntmps4
  go_wp2_with fail
  refine (bytesA sa n cs ao 0 c a0 s ch0 pos0 k [] w hi hn63 hm63).mono ?_
  rintro e w0 ⟨⟨b, rfl, _⟩, rfl⟩
  cases b with
  | false =>
    go_wp2
    go_ret
    exact ⟨rfl, Below.refl _ _⟩
  | true =>
  go_wp2_with fail
  refine (big_any sa n cs ao 0 c [] w0 hi hn63 hm63).mono ?_
  rintro e w1 ⟨⟨b, rfl, hsm⟩, rfl⟩
  cases b with
  | true =>
    go_wp2
    go_ret
    exact ⟨rfl, Below.refl _ _⟩
  | false =>
  have hn := (hsm rfl).ss
  have hm := (hsm rfl).cs
  have HE : Hid (∀ i, i < 0 → (([])[i]?.getD []).length ≤ 131072) := (hsm rfl).each
  clear hsm hn63 hm63
  by_cases c1 : a0 < 0
  · go_wp2
    go_ret
    exact ⟨rfl, Below.refl _ _⟩
  by_cases c2 : (n : Int) < a0
  · go_wp2
    go_ret
    exact ⟨rfl, Below.refl _ _⟩
  obtain ⟨p, rfl⟩ := Int.eq_ofNat_of_zero_le (Int.not_lt.1 c1)
  have hp : p ≤ n := by omega
  have d1 : decide ((p : Int) < 0) = false := decide_eq_false (by omega)
  have d2 : decide (n < p) = false := decide_eq_false (by omega)
  clear c1 c2
  by_cases g1 : (s == 9223372036854775807) = true
  · go_wp2
    go_ret
    exact ⟨rfl, Below.refl _ _⟩
  have g1' : (s == 9223372036854775807) = false := by simpa using g1
  by_cases g2 : (k == 9223372036854775807) = true
  · go_wp2
    go_ret
    exact ⟨rfl, Below.refl _ _⟩
  have g2' : (k == 9223372036854775807) = false := by simpa using g2
  have HS1 : Hid (suc s = s + 1) := suc_of (ne_top g1) hs0 hs1
  have HK1 : Hid (suc k = k + 1) := suc_of (ne_top g2) hk0 hk1
  have hs2 : s ≤ 9223372036854775806 := by have : s ≠ 9223372036854775807 := ne_top g1; omega
  have hk2 : k ≤ 9223372036854775806 := by have : k ≠ 9223372036854775807 := ne_top g2; omega
  clear g1 g2 hs1 hk1
  obtain ⟨i3, hi3, hz0, hz1, hz2⟩ := info_parts Try.info3
  have HZ2 : Hid (i3.bytes = 8) := hz2
  clear hz2
  have E1 : Hid (∀ i, i < ([] : List (List Int)).length → (([] : List (List Int))[i]?.getD []).length ≤ 1048576) := fun i hi => by simp at hi
  have L1 : ss.length ≤ 1048576 := by rw [HSL.out]; omega
  have L2 : ([] : List (List Int)).length ≤ 1048576 := by simp
  go_wp2_with fail
  refine (build_any sa n cs ss ao 0 c [] 0 _ hs hi (by omega) (by omega) (by omega) (by omega)).mono ?_
  rintro e wA ⟨rfl, wlA, bA⟩
  have sA := bA.size
  go_wp2_with fail
  refine (mem_any w1.heap.size ss [] _ wlA L1 L2 E1).mono ?_
  rintro e wB ⟨rfl, bB0⟩
  have bB : Below w1.heap.size w1 wB := bA.trans (bB0.mono sA)
  have sB := bB.size
  obtain ⟨r, hr⟩ : ∃ r, r = Pl.mem suc ss [] := ⟨_, rfl⟩
  have HR : Hid (r = Pl.mem suc ss []) := hr
  rw [← hr]
  have hsB : Rd wB sa n cs (ints ss) := hs.carry bB
  clear hr wlA bA bB0 sA L1 L2 E1 hs hi
  have q1 : i3.bytes * (n + 1) ≤ 281474976710656 := by rw [HZ2.out]; omega
  have q2 : n + 1 ≤ maxLen := by unfold maxLen; omega
  have q3 : ∀ j, j ≤ 131073 → j * 8 ≤ 140737488355328 ∧ j ≤ maxLen := fun j hj => by unfold maxLen; omega
  have Q3 : Hid _ := q3
  clear q3
  go_wp2_with (at_make; refine wpList_make_own _ rfl (.const (.int .i64 0)) (.tmp 80) 22 rfl wB.heap.size 3 i3 (.int .i64 0) 1 Try.underlying22 hi3 hz0 hz1 .i64 .i64 _ (n + 1) rfl rfl (by omega) q1 q2 (Nat.le_refl _) ?_)
  intro wC hownC hgrC
  have bC : Below wB.heap.size wB wC := (Below.refl _ _).grown hgrC (Nat.le_refl _) (fun k hk => by cases hk)
  clear hgrC q1 q2
  go_wp2_with fail
  go_loopg [16, 17] p (fun gg v i wx => ∃ (j g cap : Nat), gg = p - j ∧ j ≤ p ∧ i = .int .i64 j ∧ v = .slice (some ⟨g, 0, none⟩) j cap ∧ wx.ownsRow wB.heap.size 3 1 (.slice (some ⟨g, 0, none⟩) j cap) j (ints (ss.take j)) ∧ Below wB.heap.size wB wx)
  case atStart => exact ⟨0, _, _, rfl, Nat.zero_le _, rfl, rfl, hownC, bC⟩
  case round =>
    clear hownC bC
    obtain ⟨j, g, cap, hgg, hj, rfl, rfl, hown, hb⟩ := hrel
    have HGG : Hid _ := hgg
    clear hgg
    have hsz := hb.size
    by_cases hjp : j < p
    · obtain ⟨b, off, rfl, hbb, hc⟩ := (hsB.carry hb).at (by omega)
      have hcell := hc j _ (ints_at (by rw [HSL.out]; omega))
      have HNX : Hid (ints (ss.take j) ++ [.int .i64 (ss[j]?.getD 0)] = ints (ss.take (j + 1))) := ints_next (by rw [HSL.out]; omega)
      obtain ⟨y, hy⟩ : ∃ y, y = ss[j]?.getD 0 := ⟨_, rfl⟩
      rw [← hy] at hcell HNX
      have hjp' : (j : Int) < (p : Int) := by omega
      have q4 := Q3.out (j + 1) (by omega)
      clear hc hy hsB
      go_wp2_with (at_builtin; refine wpList_append_to _ rfl (.tmp 87) (.tmp 92) 22 22 rfl wB.heap.size 3 3 (.int .i64 0) 8 Try.underlying22 Try.underlying22 Try.info3 rfl g j cap (ints (ss.take j)) rfl (hown.alloc _) (some ⟨wr.heap.size, 0, none⟩) 1 1 [.int .i64 y] rfl (Rd.one _ _ _) (int_one _) (j + 1) rfl (ints (ss.take (j + 1))) HNX q4 (by simp; omega) ?_)
      intro g3 c3 w3 hown3 hb3
      have hb4 := (hb.alloc hsz (.cells #[.int .i64 y] 3)).trans hb3
      clear hown hb3 hb q4 HNX hcell
      go_wp2
      go_roundg (p - (j + 1))
      case measure => have := HGG.out; omega
      case rel => exact ⟨j + 1, g3, c3, rfl, by omega, by go_num, rfl, hown3, hb4⟩
    · have hjj : j = p := by omega
      subst hjj
      have HNX : Hid (ints (ss.take j) ++ [.int .i64 s] = ints (Pl.upTo ss s j (j - j))) := by rw [Nat.sub_self, upTo_zero, ints_snoc]; exact rfl
      have q4 := Q3.out (j + 1) (by omega)
      clear HGG hj hjp
      go_wp2_with (at_builtin; refine wpList_append_to _ rfl (.tmp 94) (.tmp 96) 22 22 rfl wB.heap.size 3 3 (.int .i64 0) 8 Try.underlying22 Try.underlying22 Try.info3 rfl g j cap (ints (ss.take j)) rfl (hown.alloc _) (some ⟨wr.heap.size, 0, none⟩) 1 1 [.int .i64 s] rfl (Rd.one _ _ _) (int_one _) (j + 1) rfl (ints (Pl.upTo ss s j (j - j))) HNX q4 (by simp; omega) ?_)
      intro g3 c3 w3 hown3 hb3
      have hb4 := (hb.alloc hsz (.cells #[.int .i64 s] 3)).trans hb3
      clear hown hb3 hb q4 HNX
      go_wp2_with fail
      go_loopg [16, 18] (n - j) (fun gg v i wx => ∃ (t g cap : Nat), gg = n - t ∧ j ≤ t ∧ t ≤ n ∧ i = .int .i64 t ∧ v = .slice (some ⟨g, 0, none⟩) (t + 1) cap ∧ wx.ownsRow wB.heap.size 3 1 (.slice (some ⟨g, 0, none⟩) (t + 1) cap) (t + 1) (ints (Pl.upTo ss s j (t - j))) ∧ Below wB.heap.size wB wx)
      case atStart => exact ⟨j, _, _, rfl, Nat.le_refl _, hp, rfl, rfl, by rw [Nat.sub_self]; exact hown3, hb4⟩
      case round =>
        clear hown3 hb4 hsz
        obtain ⟨t, g, cap, hgg, hjt, ht, rfl, rfl, hown, hb⟩ := hrel
        have HGG : Hid _ := hgg
        clear hgg
        have hsz := hb.size
        by_cases htn : t < n
        · obtain ⟨b, off, rfl, hbb, hc⟩ := (hsB.carry hb).at (by omega)
          have hcell := hc t _ (ints_at (by rw [HSL.out]; omega))
          have HNX : Hid (ints (Pl.upTo ss s j (t - j)) ++ [.int .i64 (ss[t]?.getD 0)] = ints (Pl.upTo ss s j (t + 1 - j))) := ints_upTo s hjt (by rw [HSL.out]; omega)
          obtain ⟨y, hy⟩ : ∃ y, y = ss[t]?.getD 0 := ⟨_, rfl⟩
          rw [← hy] at hcell HNX
          have htn' : (t : Int) < (n : Int) := by omega
          have q4 := Q3.out (t + 1 + 1) (by omega)
          clear hc hy hsB
          go_wp2_with (at_builtin; refine wpList_append_to _ rfl (.tmp 105) (.tmp 110) 22 22 rfl wB.heap.size 3 3 (.int .i64 0) 8 Try.underlying22 Try.underlying22 Try.info3 rfl g (t + 1) cap (ints (Pl.upTo ss s j (t - j))) rfl (hown.alloc _) (some ⟨wr.heap.size, 0, none⟩) 1 1 [.int .i64 y] rfl (Rd.one _ _ _) (int_one _) (t + 1 + 1) rfl (ints (Pl.upTo ss s j (t + 1 - j))) HNX q4 (by simp; omega) ?_)
          intro g4 c4 w4 hown4 hb4
          have hb5 := (hb.alloc hsz (.cells #[.int .i64 y] 3)).trans hb4
          clear hown hb4 hb q4 HNX hcell
          go_wp2
          go_roundg (n - (t + 1))
          case measure => have := HGG.out; omega
          case rel => exact ⟨t + 1, g4, c4, rfl, by omega, by omega, by go_num, rfl, hown4, hb5⟩
        · have htt : t = n := by omega
          subst htt
          rw [upTo_done s (by rw [HSL.out]; omega)] at hown
          have hr2 : Rd wr (some ⟨g, 0, none⟩) (t + 1) cap (ints (Pl.putIn ss s j)) := Rd.ofOwn hown
          have HL2 : Hid ((Pl.putIn ss s j).length = t + 1) := by have := Pl.putIn_len ss s (p := j) (by rw [HSL.out]; exact hp); rw [HSL.out] at this; exact this
          have bw : Below w1.heap.size w1 wr := bB.trans (hb.mono sB)
          have sw := bw.size
          clear HGG ht htn hown
          obtain ⟨wD, hwD⟩ : ∃ wD, wD = (wr.alloc (.cells #[.int .i64 k] 3)).alloc (.cells #[.slice (some ⟨wr.heap.size, 0, none⟩) 1 1] 22) := ⟨_, rfl⟩
          have bw2 : Below w1.heap.size w1 wD := by rw [hwD]; exact (bw.alloc sw _).alloc (by simp; omega) _
          have sw2 := bw2.size
          have hA : Rd wD (some ⟨g, 0, none⟩) (t + 1) cap (ints (Pl.putIn ss s j)) := by rw [hwD]; exact (hr2.alloc _).alloc _
          have hB : Items wD (some ⟨wr.heap.size + 1, 0, none⟩) 1 1 [[k]] := by
            rw [hwD]
            have h1 := Rd.one (wr.alloc (.cells #[.int .i64 k] 3)) (.slice (some ⟨wr.heap.size, 0, none⟩) 1 1) 22
            have h2 := (Rd.one wr (.int .i64 k) 3).alloc (.cells #[.slice (some ⟨wr.heap.size, 0, none⟩) 1 1] 22)
            rw [show (wr.alloc (.cells #[.int .i64 k] 3)).heap.size = wr.heap.size + 1 by simp] at h1
            exact Items.one h1 h2
          have HWD : Hid _ := hwD
          clear hwD hr2 bw sw
          go_wp2_with fail
          rw [← HWD.out]
          clear HWD
          refine (build_any (some ⟨g, 0, none⟩) (t + 1) cap (Pl.putIn ss s j) (some ⟨wr.heap.size + 1, 0, none⟩) 1 1 [[k]] 0 _ hA hB (by omega) (by omega) (by omega) (by omega)).mono ?_
          rintro e wY ⟨rfl, wlY, bY⟩
          have bY' := bw2.trans (bY.mono sw2)
          have sY := bY'.size
          have F1 : (Pl.putIn ss s j).length ≤ 1048576 := by rw [HL2.out]; omega
          have F2 : ([[k]] : List (List Int)).length ≤ 1048576 := by simp
          have F3 : Hid (∀ i, i < ([[k]] : List (List Int)).length → (([[k]] : List (List Int))[i]?.getD []).length ≤ 1048576) := fun i hi => by
            have : i = 0 := by simp at hi; exact hi
            subst this
            simp
          go_wp2_with fail
          refine (mem_any _ (Pl.putIn ss s j) _ _ wlY F1 F2 F3).mono ?_
          rintro e wZ ⟨rfl, bZ⟩
          have bZ' := bY'.trans (bZ.mono sY)
          clear bZ bY' bY wlY F1 F2 F3
          rw [Pl.mem_more0, HS1.out, HK1.out, ← HR.out]
          obtain ⟨U, hU⟩ : ∃ U, U = max (s + 1) (k + 1) := ⟨_, rfl⟩
          obtain ⟨X, hX⟩ : ∃ X, X = max r U := ⟨_, rfl⟩
          rw [← hU, ← hX]
          have HU : Hid (U = max (s + 1) (k + 1)) := hU
          have HX : Hid (X = max r U) := hX
          clear hU hX
          go_wp2_with fail
          refine (max_any _ _ _).mono ?_
          rintro e wU ⟨rfl, rfl⟩
          rw [← HU.out]
          go_wp2_with fail
          refine (max_any _ _ _).mono ?_
          rintro e wV ⟨rfl, rfl⟩
          rw [← HX.out]
          have hXX : (X == X) = true := beq_self_eq_true X
          go_wp2
          go_ret
          exact ⟨rfl, bZ'⟩

end Go.Proofs.Qxb6630784a
