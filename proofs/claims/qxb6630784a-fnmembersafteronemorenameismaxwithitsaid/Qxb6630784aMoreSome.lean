/-
  FnMembersAfterOneMoreNameIsMaxWithIt, walked where there is a channel.
-/
import Derived.Test.Qxb6630784aMore0
import Derived.Test.Qxb6630784aJoin
namespace Go.Proofs.Qxb6630784a
open Go.RowKit

set_option maxHeartbeats 3200000 in
set_option maxRecDepth 100000 in
theorem more_some (sa : Option Addr) (n cs : Nat) (ss : List Int) (ao : Option Addr) (m c : Nat) (css : List (List Int)) (a0 s ch0 pos0 k : Int) (w : World) (hs : Rd w sa n cs (ints ss)) (hi : Items w ao m c css) (hm0 : 0 < m) (hm63 : m ≤ maxLen)
    (hs0 : -9223372036854775808 ≤ s) (hs1 : s ≤ 9223372036854775807) (hk0 : -9223372036854775808 ≤ k) (hk1 : k ≤ 9223372036854775807) :
    Calls Try.prog 4 #[.slice sa n cs, .slice ao m c, .int .i64 a0, .int .i64 s, .int .i64 ch0, .int .i64 pos0, .int .i64 k] w fun e w' => e = .returned (.bool true) ∧ Below w.heap.size w w' := by
  have HSL : Hid (ss.length = n) := by have := hs.len; rw [ints_len] at this; exact this
  have hn63 := Nat.le_trans hs.le hs.max
  have HCL : Hid (css.length = m) := hi.len
  go_enter Try.func4, Try.ntmps4
  go_wp2_with fail
  refine (bytesA sa n cs ao m c a0 s ch0 pos0 k css w hi hn63 hm63).mono ?_
  rintro e w0 ⟨⟨b, rfl, _⟩, rfl⟩
  cases b with
  | false =>
    go_wp2
    go_ret
    exact ⟨rfl, Below.refl _ _⟩
  | true =>
  go_wp2_with fail
  refine (big_any sa n cs ao m c css w0 hi hn63 hm63).mono ?_
  rintro e w1 ⟨⟨b, rfl, hsm⟩, rfl⟩
  cases b with
  | true =>
    go_wp2
    go_ret
    exact ⟨rfl, Below.refl _ _⟩
  | false =>
  have hn := (hsm rfl).ss
  have hm := (hsm rfl).cs
  have HE : Hid (∀ i, i < m → ((css)[i]?.getD []).length ≤ 131072) := (hsm rfl).each
  clear hsm hn63 hm63
  by_cases c1 : a0 < 0
  · go_wp2
    go_ret
    exact ⟨rfl, Below.refl _ _⟩
  by_cases c2 : (n : Int) < a0
  · go_wp2
    go_ret
    exact ⟨rfl, Below.refl _ _⟩
  obtain ⟨p, rfl⟩ := Int.eq_ofNat_of_zero_le (Int.not_lt.1 c1)
  have hp : p ≤ n := by omega
  have d1 : decide ((p : Int) < 0) = false := decide_eq_false (by omega)
  have d2 : decide (n < p) = false := decide_eq_false (by omega)
  clear c1 c2
  by_cases g1 : (s == 9223372036854775807) = true
  · go_wp2
    go_ret
    exact ⟨rfl, Below.refl _ _⟩
  have g1' : (s == 9223372036854775807) = false := by simpa using g1
  by_cases g2 : (k == 9223372036854775807) = true
  · go_wp2
    go_ret
    exact ⟨rfl, Below.refl _ _⟩
  have g2' : (k == 9223372036854775807) = false := by simpa using g2
  have HS1 : Hid (suc s = s + 1) := suc_of (ne_top g1) hs0 hs1
  have HK1 : Hid (suc k = k + 1) := suc_of (ne_top g2) hk0 hk1
  have hs2 : s ≤ 9223372036854775806 := by have : s ≠ 9223372036854775807 := ne_top g1; omega
  have hk2 : k ≤ 9223372036854775806 := by have : k ≠ 9223372036854775807 := ne_top g2; omega
  clear g1 g2 hs1 hk1
  have t1 : (0 : Int) < (m : Int) := by omega
  have t2 : ((m : Int) == 0) = false := beq_eq_false_iff_ne.2 (by omega)
  by_cases c1 : ch0 < 0
  · go_wp2
    go_ret
    exact ⟨rfl, Below.refl _ _⟩
  by_cases c2 : (m : Int) ≤ ch0
  · go_wp2
    go_ret
    exact ⟨rfl, Below.refl _ _⟩
  obtain ⟨q, rfl⟩ := Int.eq_ofNat_of_zero_le (Int.not_lt.1 c1)
  have hq : q < m := by omega
  have d3 : decide ((q : Int) < 0) = false := decide_eq_false (by omega)
  have d4 : decide (m ≤ q) = false := decide_eq_false (by omega)
  clear c1 c2
  obtain ⟨qb, qoff, qa, ql, qc, rfl, hqb, hqcell, hqrd, hql, hqlm⟩ := hi.at hq
  have hql2 := HE.out q hq
  obtain ⟨zs, hzs⟩ : ∃ zs, zs = css[q]?.getD [] := ⟨_, rfl⟩
  rw [← hzs] at hql hql2 hqrd
  have HZS : Hid (zs = css[q]?.getD []) := hzs
  have HZL : Hid (zs.length = ql) := hql
  rw [hql] at hql2
  clear hzs hql hqlm
  by_cases c1 : pos0 < 0
  · go_wp2
    go_ret
    exact ⟨rfl, Below.refl _ _⟩
  by_cases c2 : (ql : Int) < pos0
  · go_wp2
    go_ret
    exact ⟨rfl, Below.refl _ _⟩
  obtain ⟨u, rfl⟩ := Int.eq_ofNat_of_zero_le (Int.not_lt.1 c1)
  have hu : u ≤ ql := by omega
  have d5 : decide ((u : Int) < 0) = false := decide_eq_false (by omega)
  have d6 : decide (ql < u) = false := decide_eq_false (by omega)
  clear c1 c2
  obtain ⟨i22, hi22, hw0, hw1, hw2⟩ := info_parts Try.info22
  have HW2 : Hid (i22.bytes = 24) := hw2
  clear hw2
  obtain ⟨i3, hi3, hz0, hz1, hz2⟩ := info_parts Try.info3
  have HZ2 : Hid (i3.bytes = 8) := hz2
  clear hz2
  have E1 : Hid (∀ i, i < (css : List (List Int)).length → ((css : List (List Int))[i]?.getD []).length ≤ 1048576) := each_weak HE.out HCL.out
  have L1 : ss.length ≤ 1048576 := by rw [HSL.out]; omega
  have L2 : (css : List (List Int)).length ≤ 1048576 := by rw [HCL.out]; omega
  go_wp2_with fail
  refine (build_any sa n cs ss (some ⟨qb, qoff, none⟩) m c css 0 _ hs hi (by omega) (by omega) (by omega) (by omega)).mono ?_
  rintro e wA ⟨rfl, wlA, bA⟩
  have sA := bA.size
  go_wp2_with fail
  refine (mem_any w1.heap.size ss css _ wlA L1 L2 E1).mono ?_
  rintro e wB ⟨rfl, bB0⟩
  have bB : Below w1.heap.size w1 wB := bA.trans (bB0.mono sA)
  have sB := bB.size
  obtain ⟨r, hr⟩ : ∃ r, r = Pl.mem suc ss css := ⟨_, rfl⟩
  have HR : Hid (r = Pl.mem suc ss css) := hr
  rw [← hr]
  have hsB : Rd wB sa n cs (ints ss) := hs.carry bB
  obtain ⟨vs, hvs, HVI⟩ := hi.parts
  have hvB := hvs.carry bB
  have hqB : Rd wB qa ql qc (ints zs) := hqrd.carry bB
  have hqcB : wB.cell? ⟨qb, qoff + q, none⟩ = some (.slice qa ql qc) := (bB.cell (p := ⟨qb, qoff + q, none⟩) hqb).trans hqcell
  have HQB : Hid (qb < w1.heap.size) := hqb
  have HVL : Hid (vs.length = m) := hvs.len
  clear hvs hqrd
  clear hr wlA bA bB0 sA L1 L2 E1 hs hi hqcell hqb
  have q1 : i3.bytes * (n + 1) ≤ 281474976710656 := by rw [HZ2.out]; omega
  have q2 : n + 1 ≤ maxLen := by unfold maxLen; omega
  have q3 : ∀ j, j ≤ 131073 → j * 8 ≤ 140737488355328 ∧ j ≤ maxLen := fun j hj => by unfold maxLen; omega
  have Q3 : Hid _ := q3
  clear q3
  go_wp2_with (at_make; refine wpList_make_own _ rfl (.const (.int .i64 0)) (.tmp 80) 22 rfl wB.heap.size 3 i3 (.int .i64 0) 1 Try.underlying22 hi3 hz0 hz1 .i64 .i64 _ (n + 1) rfl rfl (by omega) q1 q2 (Nat.le_refl _) ?_)
  intro wC hownC hgrC
  have bC : Below wB.heap.size wB wC := (Below.refl _ _).grown hgrC (Nat.le_refl _) (fun k hk => by cases hk)
  clear hgrC q1 q2
  go_wp2_with fail
  go_loopg [16, 17] p (fun gg v i wx => ∃ (j g cap : Nat), gg = p - j ∧ j ≤ p ∧ i = .int .i64 j ∧ v = .slice (some ⟨g, 0, none⟩) j cap ∧ wx.ownsRow wB.heap.size 3 1 (.slice (some ⟨g, 0, none⟩) j cap) j (ints (ss.take j)) ∧ Below wB.heap.size wB wx)
  case atStart => exact ⟨0, _, _, rfl, Nat.zero_le _, rfl, rfl, hownC, bC⟩
  case round =>
    clear hownC bC
    obtain ⟨j, g, cap, hgg, hj, rfl, rfl, hown, hb⟩ := hrel
    have HGG : Hid _ := hgg
    clear hgg
    have hsz := hb.size
    by_cases hjp : j < p
    · obtain ⟨b, off, rfl, hbb, hc⟩ := (hsB.carry hb).at (by omega)
      have hcell := hc j _ (ints_at (by rw [HSL.out]; omega))
      have HNX : Hid (ints (ss.take j) ++ [.int .i64 (ss[j]?.getD 0)] = ints (ss.take (j + 1))) := ints_next (by rw [HSL.out]; omega)
      obtain ⟨y, hy⟩ : ∃ y, y = ss[j]?.getD 0 := ⟨_, rfl⟩
      rw [← hy] at hcell HNX
      have hjp' : (j : Int) < (p : Int) := by omega
      have q4 := Q3.out (j + 1) (by omega)
      clear hc hy hsB
      go_wp2_with (at_builtin; refine wpList_append_to _ rfl (.tmp 87) (.tmp 92) 22 22 rfl wB.heap.size 3 3 (.int .i64 0) 8 Try.underlying22 Try.underlying22 Try.info3 rfl g j cap (ints (ss.take j)) rfl (hown.alloc _) (some ⟨wr.heap.size, 0, none⟩) 1 1 [.int .i64 y] rfl (Rd.one _ _ _) (int_one _) (j + 1) rfl (ints (ss.take (j + 1))) HNX q4 (by simp; omega) ?_)
      intro g3 c3 w3 hown3 hb3
      have hb4 := (hb.alloc hsz (.cells #[.int .i64 y] 3)).trans hb3
      clear hown hb3 hb q4 HNX hcell
      go_wp2
      go_roundg (p - (j + 1))
      case measure => have := HGG.out; omega
      case rel => exact ⟨j + 1, g3, c3, rfl, by omega, by go_num, rfl, hown3, hb4⟩
    · have hjj : j = p := by omega
      subst hjj
      have HNX : Hid (ints (ss.take j) ++ [.int .i64 s] = ints (Pl.upTo ss s j (j - j))) := by rw [Nat.sub_self, upTo_zero, ints_snoc]; exact rfl
      have q4 := Q3.out (j + 1) (by omega)
      clear HGG hj hjp
      go_wp2_with (at_builtin; refine wpList_append_to _ rfl (.tmp 94) (.tmp 96) 22 22 rfl wB.heap.size 3 3 (.int .i64 0) 8 Try.underlying22 Try.underlying22 Try.info3 rfl g j cap (ints (ss.take j)) rfl (hown.alloc _) (some ⟨wr.heap.size, 0, none⟩) 1 1 [.int .i64 s] rfl (Rd.one _ _ _) (int_one _) (j + 1) rfl (ints (Pl.upTo ss s j (j - j))) HNX q4 (by simp; omega) ?_)
      intro g3 c3 w3 hown3 hb3
      have hb4 := (hb.alloc hsz (.cells #[.int .i64 s] 3)).trans hb3
      clear hown hb3 hb q4 HNX
      go_wp2_with fail
      go_loopg [16, 18] (n - j) (fun gg v i wx => ∃ (t g cap : Nat), gg = n - t ∧ j ≤ t ∧ t ≤ n ∧ i = .int .i64 t ∧ v = .slice (some ⟨g, 0, none⟩) (t + 1) cap ∧ wx.ownsRow wB.heap.size 3 1 (.slice (some ⟨g, 0, none⟩) (t + 1) cap) (t + 1) (ints (Pl.upTo ss s j (t - j))) ∧ Below wB.heap.size wB wx)
      case atStart => exact ⟨j, _, _, rfl, Nat.le_refl _, hp, rfl, rfl, by rw [Nat.sub_self]; exact hown3, hb4⟩
      case round =>
        clear hown3 hb4 hsz
        obtain ⟨t, g, cap, hgg, hjt, ht, rfl, rfl, hown, hb⟩ := hrel
        have HGG : Hid _ := hgg
        clear hgg
        have hsz := hb.size
        by_cases htn : t < n
        · obtain ⟨b, off, rfl, hbb, hc⟩ := (hsB.carry hb).at (by omega)
          have hcell := hc t _ (ints_at (by rw [HSL.out]; omega))
          have HNX : Hid (ints (Pl.upTo ss s j (t - j)) ++ [.int .i64 (ss[t]?.getD 0)] = ints (Pl.upTo ss s j (t + 1 - j))) := ints_upTo s hjt (by rw [HSL.out]; omega)
          obtain ⟨y, hy⟩ : ∃ y, y = ss[t]?.getD 0 := ⟨_, rfl⟩
          rw [← hy] at hcell HNX
          have htn' : (t : Int) < (n : Int) := by omega
          have q4 := Q3.out (t + 1 + 1) (by omega)
          clear hc hy hsB
          go_wp2_with (at_builtin; refine wpList_append_to _ rfl (.tmp 105) (.tmp 110) 22 22 rfl wB.heap.size 3 3 (.int .i64 0) 8 Try.underlying22 Try.underlying22 Try.info3 rfl g (t + 1) cap (ints (Pl.upTo ss s j (t - j))) rfl (hown.alloc _) (some ⟨wr.heap.size, 0, none⟩) 1 1 [.int .i64 y] rfl (Rd.one _ _ _) (int_one _) (t + 1 + 1) rfl (ints (Pl.upTo ss s j (t + 1 - j))) HNX q4 (by simp; omega) ?_)
          intro g4 c4 w4 hown4 hb4
          have hb5 := (hb.alloc hsz (.cells #[.int .i64 y] 3)).trans hb4
          clear hown hb4 hb q4 HNX hcell
          go_wp2
          go_roundg (n - (t + 1))
          case measure => have := HGG.out; omega
          case rel => exact ⟨t + 1, g4, c4, rfl, by omega, by omega, by go_num, rfl, hown4, hb5⟩
        · have htt : t = n := by omega
          subst htt
          rw [upTo_done s (by rw [HSL.out]; omega)] at hown
          have hr2 : Rd wr (some ⟨g, 0, none⟩) (t + 1) cap (ints (Pl.putIn ss s j)) := Rd.ofOwn hown
          have HL2 : Hid ((Pl.putIn ss s j).length = t + 1) := by have := Pl.putIn_len ss s (p := j) (by rw [HSL.out]; exact hp); rw [HSL.out] at this; exact this
          have bw : Below w1.heap.size w1 wr := bB.trans (hb.mono sB)
          have sw := bw.size
          clear HGG ht htn hown
          obtain ⟨wS, hwS⟩ : ∃ wS, wS = wr := ⟨_, rfl⟩
          subst hwS
          have hvS := hvB.carry hb
          have hqS := hqB.carry hb
          have hqcS : wS.cell? ⟨qb, qoff + q, none⟩ = some (.slice qa ql qc) := (hb.cell (p := ⟨qb, qoff + q, none⟩) (by have := HQB.out; show qb < _; omega)).trans hqcB
          have q5 : i22.bytes * m ≤ 281474976710656 := by rw [HW2.out]; omega
          have q6 : m ≤ maxLen := by unfold maxLen; omega
          clear hvB hqB hqcB hb hsB hsz
          go_wp2_with (at_make; refine wpList_make_full _ rfl (.tmp 119) (.tmp 119) 23 rfl wS.heap.size 22 i22 (.slice none 0 0) 1 Try.underlying23 hi22 hw0 hw1 .i64 .i64 _ _ m rfl rfl rfl rfl q5 q6 (Nat.le_refl _) ?_)
          intro w4 hown4 hgr4
          have hb4 : Below wS.heap.size wS w4 := (Below.refl _ _).grown hgr4 (Nat.le_refl _) (fun k hk => by cases hk)
          have hfz : (madeCells #[Value.slice none 0 0] m).toList = fill vs m 0 := by rw [fill_zero, toList_madeCells_one]
          rw [hfz] at hown4
          clear hfz hgr4 q5 q6
          go_wp2_with fail
          go_loopg [20] m (fun gg i wx => ∃ (x : Nat), gg = m - x ∧ x ≤ m ∧ i = .int .i64 x ∧ wx.ownsRow wS.heap.size 22 1 (.slice (some ⟨wS.heap.size, 0, none⟩) m m) m (fill vs m x) ∧ Below wS.heap.size wS wx)
          case atStart => exact ⟨0, rfl, Nat.zero_le _, rfl, hown4, hb4⟩
          case round =>
            clear hown4 hb4
            obtain ⟨x, hgg, hx, rfl, hown, hb⟩ := hrel
            have HGG : Hid _ := hgg
            clear hgg
            by_cases hxm : x < m
            · obtain ⟨b, off, e0, hbb, hc⟩ := (hvS.carry hb).at (by omega)
              cases e0
              obtain ⟨v, hv⟩ : ∃ v, vs[x]? = some v := ⟨_, List.getElem?_eq_getElem (by rw [HVL.out]; exact hxm)⟩
              obtain ⟨a, l, c', rfl, hr'⟩ := HVI.out x v hv
              have hcell := hc x _ hv
              have hxm' : (x : Int) < (m : Int) := by omega
              have hst := hown.stored x (.slice a l c')
              have hown2 := hst.1
              rw [fill_set vs m x HVL.out hxm hv] at hown2
              have hcd : wr.cell? ⟨wS.heap.size, x, none⟩ = some (.slice none 0 0) := by rw [hown.cellAt x (by omega)]; exact fill_at vs m x HVL.out hxm
              have hfd : wr.frozen? ⟨wS.heap.size, x, none⟩ = false := hown.frozenAt x
              clear hc hr' hst hown hv hvS hqS hqcS hr2
              go_wp2
              go_roundg (m - (x + 1))
              case measure => have := HGG.out; omega
              case rel => exact ⟨x + 1, rfl, by omega, by go_num, hown2, hb.setCell (by exact Nat.le_refl _) _⟩
            · have hxx : x = m := by omega
              subst hxx
              rw [fill_done vs x HVL.out] at hown
              have hrX := Rd.ofOwn hown
              have hfX := hown.frozenAt q
              obtain ⟨v, hv⟩ : ∃ v, vs[q]? = some v := ⟨_, List.getElem?_eq_getElem (by rw [HVL.out]; exact hq)⟩
              have hcX : wr.cell? ⟨wS.heap.size, q, none⟩ = some v := by rw [hown.cellAt q (by omega)]; exact hv
              have sX := World.block_lt_of_cell? _ _ hcX
              have hqX := hqS.carry hb
              have sS := sw
              have hqcX : wr.cell? ⟨qb, qoff + q, none⟩ = some (.slice qa ql qc) := (hb.cell (p := ⟨qb, qoff + q, none⟩) (by have := HQB.out; show qb < _; omega)).trans hqcS
              obtain ⟨wX, hwX⟩ : ∃ wX, wX = wr := ⟨_, rfl⟩
              subst hwX
              have HRX : Hid _ := hrX
              have HFX : Hid _ := hfX
              have HCX : Hid _ := hcX
              have HR2 : Hid _ := hr2
              have q7 : i3.bytes * (ql + 1) ≤ 281474976710656 := by rw [HZ2.out]; omega
              have q8 : ql + 1 ≤ maxLen := by unfold maxLen; omega
              clear hown hv HGG hx hxm hvS hqS hqcS hrX hfX hcX hr2 sS
              go_wp2_with (at_make; refine wpList_make_own _ rfl (.const (.int .i64 0)) (.tmp 140) 22 rfl wX.heap.size 3 i3 (.int .i64 0) 1 Try.underlying22 hi3 hz0 hz1 .i64 .i64 _ (ql + 1) rfl rfl (by omega) q7 q8 (Nat.le_refl _) ?_)
              intro w5 hown5 hgr5
              have b5 : Below wX.heap.size wX w5 := (Below.refl _ _).grown hgr5 (Nat.le_refl _) (fun k hk => by cases hk)
              clear hgr5 q7 q8 hqcX
              go_wp2_with fail
              go_loopg [22, 23] u (fun gg v i wx => ∃ (y g cap : Nat), gg = u - y ∧ y ≤ u ∧ i = .int .i64 y ∧ v = .slice (some ⟨g, 0, none⟩) y cap ∧ wx.ownsRow wX.heap.size 3 1 (.slice (some ⟨g, 0, none⟩) y cap) y (ints (zs.take y)) ∧ Below wX.heap.size wX wx)
              case atStart => exact ⟨0, _, _, rfl, Nat.zero_le _, rfl, rfl, hown5, b5⟩
              case round =>
                clear hown5 b5
                obtain ⟨y, g5, cap5, hgg, hy, rfl, rfl, hown, hb5⟩ := hrel
                have HGG : Hid _ := hgg
                clear hgg
                have hsz := hb5.size
                by_cases hyu : y < u
                · obtain ⟨b, off, rfl, hbb, hc⟩ := (hqX.carry hb5).at (by omega)
                  have hcell := hc y _ (ints_at (by rw [HZL.out]; omega))
                  have HNX : Hid (ints (zs.take y) ++ [.int .i64 (zs[y]?.getD 0)] = ints (zs.take (y + 1))) := ints_next (by rw [HZL.out]; omega)
                  obtain ⟨e, he⟩ : ∃ e, e = zs[y]?.getD 0 := ⟨_, rfl⟩
                  rw [← he] at hcell HNX
                  have hyu' : (y : Int) < (u : Int) := by omega
                  have q4 := Q3.out (y + 1) (by omega)
                  clear hc he hqX
                  go_wp2_with (at_builtin; refine wpList_append_to _ rfl (.tmp 147) (.tmp 152) 22 22 rfl wX.heap.size 3 3 (.int .i64 0) 8 Try.underlying22 Try.underlying22 Try.info3 rfl g5 y cap5 (ints (zs.take y)) rfl (hown.alloc _) (some ⟨wr.heap.size, 0, none⟩) 1 1 [.int .i64 e] rfl (Rd.one _ _ _) (int_one _) (y + 1) rfl (ints (zs.take (y + 1))) HNX q4 (by simp; omega) ?_)
                  intro g6 c6 w6 hown6 hb6
                  have hb7 := (hb5.alloc hsz (.cells #[.int .i64 e] 3)).trans hb6
                  clear hown hb6 hb5 q4 HNX hcell
                  go_wp2
                  go_roundg (u - (y + 1))
                  case measure => have := HGG.out; omega
                  case rel => exact ⟨y + 1, g6, c6, rfl, by omega, by go_num, rfl, hown6, hb7⟩
                · have hyy : y = u := by omega
                  subst hyy
                  have HNX : Hid (ints (zs.take y) ++ [.int .i64 k] = ints (Pl.upTo zs k y (y - y))) := by rw [Nat.sub_self, upTo_zero, ints_snoc]; exact rfl
                  have q4 := Q3.out (y + 1) (by omega)
                  clear HGG hy hyu
                  go_wp2_with (at_builtin; refine wpList_append_to _ rfl (.tmp 154) (.tmp 156) 22 22 rfl wX.heap.size 3 3 (.int .i64 0) 8 Try.underlying22 Try.underlying22 Try.info3 rfl g5 y cap5 (ints (zs.take y)) rfl (hown.alloc _) (some ⟨wr.heap.size, 0, none⟩) 1 1 [.int .i64 k] rfl (Rd.one _ _ _) (int_one _) (y + 1) rfl (ints (Pl.upTo zs k y (y - y))) HNX q4 (by simp; omega) ?_)
                  intro g6 c6 w6 hown6 hb6
                  have hb7 := (hb5.alloc hsz (.cells #[.int .i64 k] 3)).trans hb6
                  clear hown hb6 hb5 q4 HNX
                  go_wp2_with fail
                  go_loopg [22, 24] (ql - y) (fun gg v i wx => ∃ (z g cap : Nat), gg = ql - z ∧ y ≤ z ∧ z ≤ ql ∧ i = .int .i64 z ∧ v = .slice (some ⟨g, 0, none⟩) (z + 1) cap ∧ wx.ownsRow wX.heap.size 3 1 (.slice (some ⟨g, 0, none⟩) (z + 1) cap) (z + 1) (ints (Pl.upTo zs k y (z - y))) ∧ Below wX.heap.size wX wx)
                  case atStart => exact ⟨y, _, _, rfl, Nat.le_refl _, hu, rfl, rfl, by rw [Nat.sub_self]; exact hown6, hb7⟩
                  case round =>
                    clear hown6 hb7 hsz
                    obtain ⟨z, g7, cap7, hgg, hyz, hz, rfl, rfl, hown, hb5⟩ := hrel
                    have HGG : Hid _ := hgg
                    clear hgg
                    have hsz := hb5.size
                    by_cases hzq : z < ql
                    · obtain ⟨b, off, rfl, hbb, hc⟩ := (hqX.carry hb5).at (by omega)
                      have hcell := hc z _ (ints_at (by rw [HZL.out]; omega))
                      have HNX : Hid (ints (Pl.upTo zs k y (z - y)) ++ [.int .i64 (zs[z]?.getD 0)] = ints (Pl.upTo zs k y (z + 1 - y))) := ints_upTo k hyz (by rw [HZL.out]; omega)
                      obtain ⟨e, he⟩ : ∃ e, e = zs[z]?.getD 0 := ⟨_, rfl⟩
                      rw [← he] at hcell HNX
                      have hzq' : (z : Int) < (ql : Int) := by omega
                      have q4 := Q3.out (z + 1 + 1) (by omega)
                      clear hc he hqX
                      go_wp2_with (at_builtin; refine wpList_append_to _ rfl (.tmp 165) (.tmp 170) 22 22 rfl wX.heap.size 3 3 (.int .i64 0) 8 Try.underlying22 Try.underlying22 Try.info3 rfl g7 (z + 1) cap7 (ints (Pl.upTo zs k y (z - y))) rfl (hown.alloc _) (some ⟨wr.heap.size, 0, none⟩) 1 1 [.int .i64 e] rfl (Rd.one _ _ _) (int_one _) (z + 1 + 1) rfl (ints (Pl.upTo zs k y (z + 1 - y))) HNX q4 (by simp; omega) ?_)
                      intro g8 c8 w8 hown8 hb8
                      have hb9 := (hb5.alloc hsz (.cells #[.int .i64 e] 3)).trans hb8
                      clear hown hb8 hb5 q4 HNX hcell
                      go_wp2
                      go_roundg (ql - (z + 1))
                      case measure => have := HGG.out; omega
                      case rel => exact ⟨z + 1, g8, c8, rfl, by omega, by omega, by go_num, rfl, hown8, hb9⟩
                    · have hzz : z = ql := by omega
                      subst hzz
                      rw [upTo_done k (by rw [HZL.out]; omega)] at hown
                      have hr3 : Rd wr (some ⟨g7, 0, none⟩) (z + 1) cap7 (ints (Pl.putIn zs k y)) := Rd.ofOwn hown
                      have hg7 : wX.heap.size ≤ g7 := (hown.lt g7 rfl).1
                      have HL3 : Hid ((Pl.putIn zs k y).length = z + 1) := by have := Pl.putIn_len zs k (p := y) (by rw [HZL.out]; exact hu); rw [HZL.out] at this; exact this
                      have hc44 : wr.cell? ⟨wS.heap.size, q, none⟩ = some v := (hb5.cell (p := ⟨wS.heap.size, q, none⟩) sX).trans HCX.out
                      have hf44 : wr.frozen? ⟨wS.heap.size, q, none⟩ = false := (World.frozen?_of_block (w := wX) (a := ⟨wS.heap.size, q, none⟩) (hb5.block _ sX)).trans HFX.out
                      obtain ⟨wD, hwD⟩ : ∃ wD, wD = wr.setCell ⟨wS.heap.size, q, none⟩ (.slice (some ⟨g7, 0, none⟩) (z + 1) cap7) := ⟨_, rfl⟩
                      have hSD : Below wS.heap.size wS wD := by rw [hwD]; exact (hb.trans (hb5.mono (Nat.le_of_lt sX))).setCell (p := ⟨wS.heap.size, q, none⟩) (Nat.le_refl _) _
                      have bw2 : Below w1.heap.size w1 wD := bw.trans (hSD.mono sw)
                      have sw2 := bw2.size
                      have hA : Rd wD (some ⟨g, 0, none⟩) (t + 1) cap (ints (Pl.putIn ss s j)) := HR2.out.carry hSD
                      have hB : Items wD (some ⟨wS.heap.size, 0, none⟩) x x (css.set q (Pl.putIn zs k y)) := by
                        refine Items.setAt (vs := vs) (a := some ⟨g7, 0, none⟩) (l := z + 1) (c' := cap7) HCL.out HVI.out bw2 ?_ ?_ hq
                        · rw [hwD]; exact (HRX.out.carry hb5).setAt q hq _
                        · rw [hwD]; exact hr3.setOff _ _ (by have h1 := hg7; have h2 : wS.heap.size < wX.heap.size := sX; omega) _
                      have HWD : Hid _ := hwD
                      clear hwD hr3 HRX HR2 hSD bw HGG hz hzq hown hqX hb5 hb
                      go_wp2_with fail
                      rw [← HWD.out]
                      clear HWD
                      refine (build_any (some ⟨g, 0, none⟩) (t + 1) cap (Pl.putIn ss s j) (some ⟨wS.heap.size, 0, none⟩) x x (css.set q (Pl.putIn zs k y)) 0 _ hA hB (by omega) (by omega) (by omega) (by omega)).mono ?_
                      rintro e wY ⟨rfl, wlY, bY⟩
                      have bY' := bw2.trans (bY.mono sw2)
                      have sY := bY'.size
                      have F1 : (Pl.putIn ss s j).length ≤ 1048576 := by rw [HL2.out]; omega
                      have F2 : (css.set q (Pl.putIn zs k y)).length ≤ 1048576 := by rw [List.length_set, HCL.out]; omega
                      have F3 : Hid (∀ i, i < (css.set q (Pl.putIn zs k y)).length → ((css.set q (Pl.putIn zs k y))[i]?.getD []).length ≤ 1048576) := more_each HE.out HCL.out (by rw [HL3.out]; omega)
                      go_wp2_with fail
                      refine (mem_any _ (Pl.putIn ss s j) _ _ wlY F1 F2 F3).mono ?_
                      rintro e wZ ⟨rfl, bZ⟩
                      have bZ' := bY'.trans (bZ.mono sY)
                      clear bZ bY' bY wlY F1 F2 F3
                      rw [HZS.out, Pl.mem_more suc ss css s k j q y (by rw [HCL.out]; exact hq), HS1.out, HK1.out, ← HR.out]
                      obtain ⟨U, hU⟩ : ∃ U, U = max (s + 1) (k + 1) := ⟨_, rfl⟩
                      obtain ⟨X, hX⟩ : ∃ X, X = max r U := ⟨_, rfl⟩
                      rw [← hU, ← hX]
                      have HU : Hid (U = max (s + 1) (k + 1)) := hU
                      have HX : Hid (X = max r U) := hX
                      clear hU hX
                      go_wp2_with fail
                      refine (max_any _ _ _).mono ?_
                      rintro e wU ⟨rfl, rfl⟩
                      rw [← HU.out]
                      go_wp2_with fail
                      refine (max_any _ _ _).mono ?_
                      rintro e wV ⟨rfl, rfl⟩
                      rw [← HX.out]
                      have hXX : (X == X) = true := beq_self_eq_true X
                      go_wp2
                      go_ret
                      exact ⟨rfl, bZ'⟩

end Go.Proofs.Qxb6630784a
