import Derived.Test.Qxb6630670aIns
namespace Go.Proofs.Qxb6630670a
open Go.RowKit

theorem slice_one (a : Option Addr) (l c : Nat) : ∀ u ∈ [Value.slice a l c], u.oneCell' = true := by intro u hu; simp at hu; subst hu; rfl
theorem all_take {vs : List Value} (h : ∀ u ∈ vs, u.oneCell' = true) (k : Nat) : ∀ u ∈ vs.take k, u.oneCell' = true := fun u hu => h u (List.mem_of_mem_take hu)
theorem all_drop {vs : List Value} (h : ∀ u ∈ vs, u.oneCell' = true) (k : Nat) : ∀ u ∈ vs.drop k, u.oneCell' = true := fun u hu => h u (List.mem_of_mem_drop hu)
theorem soLen_put {Z Y : Nat → List Int} {x : List Int} {p n : Nat} (h : Pl.Put Z Y x p) (hp : p ≤ n) (hs : x.length + (8 * n + Pl.sum Z n) ≤ 1048576) : soLen Y (n + 1) ≤ 8388608 := by
  have h1 := Pl.put_len h hp
  have h2 := Pl.pre_len Z n
  unfold soLen
  omega
theorem want_len {w : World} {g m cap : Nat} {Z : Nat → List Int} {n : Nat} (h : Rd w (some ⟨g, 0, none⟩) m cap (bytes (Pl.arr Z n))) : m = Pl.sum Z n + (n - 1) + 2 := by
  have := h.len
  rw [bytes_len, Pl.arr_len] at this
  omega
theorem putIn_parts {α : Type} (vs : List α) (x : α) (p : Nat) : (vs.take p ++ [x]) ++ vs.drop p = putIn vs x p := by simp [putIn]

set_option maxHeartbeats 4000000 in
set_option maxRecDepth 100000 in
theorem ins_walk (ao : Option Addr) (n c : Nat) (zss : List (List Int)) (k0 : Int) (ax : Option Addr) (lx cx : Nat) (xs : List Int) (w : World) (h : Items w ao n c zss) (hx : Rd w ax lx cx (bytes xs)) (hnm : n ≤ maxLen) (hcm : n ≤ c) :
    Calls Try.prog 4 #[.slice ao n c, .int .i64 k0, .slice ax lx cx] w fun e w' => e = .returned (.bool true) ∧ Below w.heap.size w w' := by
  have HX : Hid (xs.length = lx) := by have := hx.len; rw [bytes_len] at this; exact this
  go_enter Try.func4, Try.ntmps4
  go_wp2_with fail
  refine (bytesIns_any ao n c zss k0 ax lx cx w h hnm (Nat.le_trans hx.le hx.max)).mono ?_
  rintro e w' ⟨⟨b, rfl, hsh⟩, rfl⟩
  cases b with
  | false =>
    go_wp2
    go_ret
    exact ⟨rfl, Below.refl _ _⟩
  | true =>
  have HSH : Hid (Short zss n) := (hsh rfl).items
  have hlx : lx ≤ 1048576 := (hsh rfl).x
  clear hsh
  have hdx : decide ((1048576 : Int) < (lx : Int)) = false := decide_eq_false (by omega)
  by_cases hn0 : 65536 < n
  · have hn1 : (65536 : Int) < (n : Int) := by omega
    go_wp2
    go_ret
    exact ⟨rfl, Below.refl _ _⟩
  have hd : decide ((65536 : Int) < (n : Int)) = false := decide_eq_false (by omega)
  have hn2 : n ≤ 65536 := by omega
  clear hn0 hnm
  go_wp2_with fail
  go_loop [7, 8] (fun z i => ∃ (k s : Nat), k ≤ n ∧ i = .int .i64 k ∧ z = .int .i64 s ∧ s ≤ 1048576 ∧ Hid (s = lx + (8 * k + Pl.sum (zAt zss) k))) (fun _ i => n - (intOf i).toNat)
  case atStart => exact ⟨0, lx, Nat.zero_le _, rfl, rfl, by omega, rfl⟩
  case round =>
    obtain ⟨k, s, hk, rfl, rfl, hs, HS⟩ := hrel
    by_cases hlt : k < n
    · obtain ⟨b, off, a, l, c', rfl, hbb, hcell, hr0, hl, hlm⟩ := h.at hlt
      have hlt' : (k : Int) < (n : Int) := by omega
      have hl2 : l ≤ 1048576 := by have := HSH.out k hlt; unfold zAt at this; omega
      have HL : Hid ((zAt zss k).length = l) := hl
      clear hl hlm hr0 h
      by_cases hs2 : (1048576 : Int) < (s : Int) + (8 + (l : Int))
      · go_wp2
        go_ret
        exact ⟨rfl, Below.refl _ _⟩
      · go_wp2
        go_round
        case rel => exact ⟨k + 1, s + (8 + l), by omega, by go_num, by go_num, by omega, by have h1 := HS.out; have h2 := HL.out; show _ = _; rw [sum_next, h2]; omega⟩
        case measure => simp [intOf]; omega
    · have hkn : k = n := by omega
      subst hkn
      by_cases hk0 : k0 < 0
      · go_wp2
        go_ret
        exact ⟨rfl, Below.refl _ _⟩
      by_cases hk1 : (k : Int) < k0
      · go_wp2
        go_ret
        exact ⟨rfl, Below.refl _ _⟩
      obtain ⟨j, rfl⟩ := Int.eq_ofNat_of_zero_le (Int.not_lt.1 hk0)
      have hj : j ≤ k := by omega
      have hd2 : decide ((k : Int) < (j : Int)) = false := decide_eq_false (by omega)
      have hd3 : decide ((j : Int) < 0) = false := decide_eq_false (by omega)
      have HSUM : Hid (lx + (8 * k + Pl.sum (zAt zss) k) ≤ 1048576) := by have := HS.out; show _ ≤ _; omega
      clear hk0 hk1 hs HS hk hlt
      go_wp2_with fail
      -- the sum of the lengths
      go_loop [10, 11] (fun z i => ∃ (t : Nat), t ≤ k ∧ i = .int .i64 t ∧ z = .int .i64 (Pl.sum (zAt zss) t : Nat)) (fun _ i => k - (intOf i).toNat)
      case atStart => exact ⟨0, Nat.zero_le _, rfl, rfl⟩
      case round =>
        obtain ⟨t, ht, rfl, rfl⟩ := hrel
        by_cases hlt : t < k
        · obtain ⟨b, off, a, l, c', rfl, hbb, hcell, hr0, hl, hlm⟩ := h.at hlt
          have hlt' : (t : Int) < (k : Int) := by omega
          have hl2 : l ≤ 1048576 := by have := HSH.out t hlt; unfold zAt at this; omega
          have hst : Pl.sum (zAt zss) t ≤ 1048576 := by have := HSUM.out; have h2 := Pl.sum_mono (zAt zss) ht; omega
          have HL : Hid ((zAt zss t).length = l) := hl
          clear hl hlm hr0 h
          go_wp2
          go_round
          case rel => exact ⟨t + 1, by omega, by go_num, by have h2 := HL.out; rw [sum_next, h2]; go_num⟩
          case measure => simp [intOf]; omega
        · have htk : t = k := by omega
          subst htk
          have hS : Pl.sum (zAt zss) t ≤ 1048576 := by have := HSUM.out; omega
          have HSH2 := HSH
          clear ht hlt HSH
          have hput := put_of zss xs (p := j) (by obtain ⟨vs, hr, hl, _⟩ := h; omega)
          have hb1 : soLen (zAt zss) t ≤ 8388608 := soLen_le _ _ (by have := HSUM.out; omega)
          have hb2 : soLen (zAt (putIn zss xs j)) (t + 1) ≤ 8388608 := soLen_put hput hj (by rw [HX.out]; exact HSUM.out)
          obtain ⟨ao', hao'⟩ : ∃ ao', ao' = (if c = j then ao else ao.map fun x => x.add j) := ⟨_, rfl⟩
          have hsl := fun wx => run_drop (P := Try.prog) wx Try.underlying22 Try.info24 ao t c j hj hao'
          have HAO : Hid (ao' = (if c = j then ao else ao.map fun x => x.add j)) := hao'
          clear hao'
          obtain ⟨i0, hi0, hz0, hz1, hz2⟩ := info_parts Try.info5
          obtain ⟨i4, hi4, hw0, hw1, hw2⟩ := info_parts Try.info24
          have HZ2 : Hid (i0.bytes = 1) := hz2
          have HW2 : Hid (i4.bytes = 24) := hw2
          clear hz2 hw2
          by_cases hz : t = 0
          · have HZ0 : Hid (t = 0) := hz
            have hz0' : t < 1 := by omega
            clear hz
            have t0 : decide ((0 : Int) < (t : Int)) = false := decide_eq_false (by omega)
            have t1 : ((t : Int) == 0) = true := beq_iff_eq.2 (by omega)
            go_wp2_with fail
            refine (zz_any ao t c zss (zAt zss) (fun _ _ => rfl) _ h (by omega) hb1).mono ?_
            rintro e w1 ⟨g1, m1, cap1, rfl, hr1, hbel1⟩
            have ha := hbel1.size
            have hm1 := want_len hr1
            have hm1a : (m1 : Int) ≤ 2 + (Pl.sum (zAt zss) t : Nat) ∧ 2 + ((Pl.sum (zAt zss) t : Nat) : Int) ≤ m1 := by omega
            obtain ⟨hm1a, hm1b⟩ := hm1a
            have hm1c : 2 ≤ m1 ∧ m1 ≤ 8388609 := by omega
            obtain ⟨hm1c, hm1d⟩ := hm1c
            have hc1 := hr1.le
            clear hm1
            have q1 : i4.bytes * (t + 1) ≤ 281474976710656 := by rw [HW2.out]; omega
            have q2 : t + 1 ≤ maxLen := by unfold maxLen; omega
            go_wp2_with (at_make; refine wpList_make_own _ rfl (.const (.int .i64 0)) (.tmp 85) 22 rfl w1.heap.size 24 i4 (.slice none 0 0) 1 Try.underlying22 hi4 hw0 hw1 .i64 .i64 _ (t + 1) rfl rfl (by omega) q1 q2 (Nat.le_refl _) ?_)
            intro w2 hown2 hgr2
            have hB2 : Below w1.heap.size w1 w2 := (Below.refl _ _).grown hgr2 (Nat.le_refl _) (fun k hk => by cases hk)
            have hs2 := hB2.size
            obtain ⟨vs, hrd, hl, hi⟩ := h
            have h1c := Items.slices hi
            have q3 : j * 24 ≤ 140737488355328 ∧ j ≤ maxLen := by unfold maxLen; omega
            have q4 : (j + 1) * 24 ≤ 140737488355328 ∧ j + 1 ≤ maxLen := by unfold maxLen; omega
            have q5 : (t + 1) * 24 ≤ 140737488355328 ∧ t + 1 ≤ maxLen := by unfold maxLen; omega
            have HN5 : Hid (j + 1 + (t - j) = t + 1) := by show _ = _; omega
            clear hgr2 q1 q2
            go_wp2_with (at_builtin; refine wpList_append_to _ rfl (.tmp 87) (.tmp 90) 22 22 rfl w1.heap.size 24 24 (.slice none 0 0) 24 Try.underlying22 Try.underlying22 Try.info24 rfl w1.heap.size 0 (t + 1) [] rfl hown2 ao j c (vs.take j) rfl (((hrd.take hj).carry hbel1).carry hB2) (all_take h1c j) j (Nat.zero_add _) (vs.take j) (List.nil_append _) q3 hs2 ?_)
            intro g3 c3 w3 hown3 hbel3
            have hB3 := hB2.trans hbel3
            have hs3 := hB3.size
            clear hown2 hbel3 hB2 q3
            go_wp2_with (at_builtin; refine wpList_append_to _ rfl (.tmp 92) (.tmp 94) 22 22 rfl w1.heap.size 24 24 (.slice none 0 0) 24 Try.underlying22 Try.underlying22 Try.info24 rfl g3 j c3 (vs.take j) rfl (hown3.alloc _) (some ⟨w3.heap.size, 0, none⟩) 1 1 [.slice ax lx cx] rfl (Rd.one _ _ _) (slice_one _ _ _) (j + 1) rfl (vs.take j ++ [Value.slice ax lx cx]) rfl q4 (by simp; omega) ?_)
            intro g4 c4 w4 hown4 hbel4
            have hB4 := (hB3.alloc hs3 (.cells #[.slice ax lx cx] 24)).trans hbel4
            have hs4 := hB4.size
            clear hown3 hbel4 hB3 q4
            go_wp2_with (at_builtin; refine wpList_append_to _ rfl (.tmp 96) (.tmp 99) 22 22 rfl w1.heap.size 24 24 (.slice none 0 0) 24 Try.underlying22 Try.underlying22 Try.info24 rfl g4 (j + 1) c4 (vs.take j ++ [Value.slice ax lx cx]) rfl hown4 ao' (t - j) (c - j) (vs.drop j) rfl (((hrd.dropG hj HAO.out).carry hbel1).carry hB4) (all_drop h1c j) (t + 1) HN5 (putIn vs (Value.slice ax lx cx) j) (putIn_parts _ _ _) q5 hs4 ?_)
            intro g5 c5 w5 hown5 hbel5
            have hB5 := hB4.trans hbel5
            have hs5 := hB5.size
            have hBw5 := hbel1.trans (hB5.mono ha)
            have hit := Items.putIn hrd hl hi hBw5 hx hj (Rd.ofOwn hown5)
            replace hx := hx.carry hBw5
            replace hr1 := hr1.carry hB5
            have h : Items _ _ _ _ _ := ⟨vs, hrd, hl, hi⟩
            clear hown4 hown5 hbel5 hB4 hB5 q5 hrd hl hi hbel1 hs2 hs3 hs4 h1c
            go_wp2_with fail
            refine (zz_any (some ⟨g5, 0, none⟩) (t + 1) c5 (putIn zss xs j) (zAt (putIn zss xs j)) (fun _ _ => rfl) _ hit (by omega) hb2).mono ?_
            rintro e w6 ⟨g6, m6, cap6, rfl, hr6, hbel6⟩
            have hs6 := hbel6.size
            replace hx := hx.carry hbel6
            replace hr1 := hr1.carry hbel6
            have hBw6 := hBw5.trans (hbel6.mono (by omega))
            have hm6 := hr6.len
            rw [bytes_len] at hm6
            have HM6 : Hid ((Pl.arr (zAt (putIn zss xs j)) (t + 1)).length = m6) := hm6
            have hm6b : m6 ≤ 8388609 := by rw [← hm6]; have e : (Pl.arr (zAt (putIn zss xs j)) (t + 1)).length = soLen (zAt (putIn zss xs j)) (t + 1) + 1 := by { simp [Pl.arr, soLen]; omega }; omega
            clear hm6 hit hbel6 hBw5
            have q6 : i0.bytes * (m1 + lx + 3) ≤ 281474976710656 := by rw [HZ2.out]; omega
            have q7 : m1 + lx + 3 ≤ maxLen := by unfold maxLen; omega
            go_wp2_with (at_make; refine wpList_make_own _ rfl (.const (.int .i64 0)) (.tmp 108) 24 rfl w6.heap.size 5 i0 (.int .u8 0) 1 Try.underlying24 hi0 hz0 hz1 .i64 .i64 _ (m1 + lx + 3) rfl rfl (by omega) q6 q7 (Nat.le_refl _) ?_)
            intro w7 hown7 hgr7
            have hB7 : Below w6.heap.size w6 w7 := (Below.refl _ _).grown hgr7 (Nat.le_refl _) (fun k hk => by cases hk)
            have hs7 := hB7.size
            clear hgr7 q6 q7
            have qf : m6 * 1 ≤ 140737488355328 ∧ m6 ≤ maxLen := by unfold maxLen; omega
            have qa : 1 * 1 ≤ 140737488355328 ∧ 1 ≤ maxLen := by unfold maxLen; omega
            have qb : (1 + lx) * 1 ≤ 140737488355328 ∧ 1 + lx ≤ maxLen := by unfold maxLen; omega
            have HZ : Hid ((Value.int .u8 91 :: bytes xs) ++ [Value.int .u8 93] = (bytes (Pl.arr (zAt (putIn zss xs j)) (t + 1)))) := by have e := Pl.put_empty hput (by omega : j = 0); rw [show t + 1 = 1 by omega, e]; exact one_cells xs
            have HN : Hid (1 + lx + 1 = m6) := by have e := congrArg List.length HZ.out; rw [bytes_len, HM6.out] at e; have e2 := HX.out; simp [bytes_len] at e; show _ = _; omega
            go_wp2_with (at_builtin; refine wpList_append_to _ rfl (.tmp 112) (.tmp 113) 24 24 rfl w6.heap.size 5 5 (.int .u8 0) 1 Try.underlying24 Try.underlying24 Try.info5 rfl w6.heap.size 0 (m1 + lx + 3) [] rfl (hown7.alloc _) (some ⟨w7.heap.size, 0, none⟩) 1 1 [.int .u8 91] rfl (Rd.one _ _ _) (one_one _) 1 rfl [Value.int .u8 91] rfl qa (by simp; omega) ?_)
            intro g8 c8 w8 hown8 hbel8
            have hB8 := (hB7.alloc hs7 (.cells #[.int .u8 91] 5)).trans hbel8
            have hs8 := hB8.size
            clear hown7 hbel8 qa
            go_wp2_with (at_builtin; refine wpList_append_to _ rfl (.tmp 115) (.tmp 116) 24 24 rfl w6.heap.size 5 5 (.int .u8 0) 1 Try.underlying24 Try.underlying24 Try.info5 rfl g8 1 c8 [Value.int .u8 91] rfl hown8 ax lx cx (bytes xs) rfl (hx.carry hB8) (bytes_one _) (1 + lx) rfl (Value.int .u8 91 :: bytes xs) rfl qb hs8 ?_)
            intro g9 c9 w9 hown9 hbel9
            have hB9 := hB8.trans hbel9
            have hs9 := hB9.size
            clear hown8 hbel9 qb
            go_wp2_with (at_builtin; refine wpList_append_to _ rfl (.tmp 118) (.tmp 119) 24 24 rfl w6.heap.size 5 5 (.int .u8 0) 1 Try.underlying24 Try.underlying24 Try.info5 rfl g9 (1 + lx) c9 (Value.int .u8 91 :: bytes xs) rfl (hown9.alloc _) (some ⟨w9.heap.size, 0, none⟩) 1 1 [.int .u8 93] rfl (Rd.one _ _ _) (one_one _) m6 HN (bytes (Pl.arr (zAt (putIn zss xs j)) (t + 1))) HZ qf (by simp; omega) ?_)
            intro g10 c10 w10 hown10 hbel10
            have hB10 := (hB9.alloc hs9 (.cells #[.int .u8 93] 5)).trans hbel10
            have hs10 := hB10.size
            clear hown9 hbel10 qf
            have hrE := Rd.ofOwn hown10
            clear hown10
            go_wp2_with fail
            refine (eq_same _ _ m6 cap6 c10 (Pl.arr (zAt (putIn zss xs j)) (t + 1)) _ (hr6.carry hB10) hrE).mono ?_
            rintro e wz ⟨rfl, qq, rfl⟩
            go_wp2
            go_ret
            exact ⟨rfl, below_drewN (hBw6.trans (hB10.mono (by omega))) qq⟩
          have hz' : 0 < t := by omega
          clear hz
          by_cases hjt : j < t
          · have t0 : (0 : Int) < (t : Int) := by omega
            have t1 : ((t : Int) == 0) = false := beq_eq_false_iff_ne.2 (by omega)
            have t2 : ((j : Int) == (t : Int)) = false := beq_eq_false_iff_ne.2 (by omega)
            go_wp2_with fail
            refine (zz_any ao t c zss (zAt zss) (fun _ _ => rfl) _ h (by omega) hb1).mono ?_
            rintro e w1 ⟨g1, m1, cap1, rfl, hr1, hbel1⟩
            have ha := hbel1.size
            have hm1 := want_len hr1
            have hm1a : (m1 : Int) ≤ 2 + (Pl.sum (zAt zss) t : Nat) + ((t : Int) - 1) ∧ 2 + ((Pl.sum (zAt zss) t : Nat) : Int) + ((t : Int) - 1) ≤ m1 := by omega
            obtain ⟨hm1a, hm1b⟩ := hm1a
            have hm1c : 2 ≤ m1 ∧ m1 ≤ 8388609 := by omega
            obtain ⟨hm1c, hm1d⟩ := hm1c
            have hc1 := hr1.le
            clear hm1
            have q1 : i4.bytes * (t + 1) ≤ 281474976710656 := by rw [HW2.out]; omega
            have q2 : t + 1 ≤ maxLen := by unfold maxLen; omega
            go_wp2_with (at_make; refine wpList_make_own _ rfl (.const (.int .i64 0)) (.tmp 85) 22 rfl w1.heap.size 24 i4 (.slice none 0 0) 1 Try.underlying22 hi4 hw0 hw1 .i64 .i64 _ (t + 1) rfl rfl (by omega) q1 q2 (Nat.le_refl _) ?_)
            intro w2 hown2 hgr2
            have hB2 : Below w1.heap.size w1 w2 := (Below.refl _ _).grown hgr2 (Nat.le_refl _) (fun k hk => by cases hk)
            have hs2 := hB2.size
            obtain ⟨vs, hrd, hl, hi⟩ := h
            have h1c := Items.slices hi
            have q3 : j * 24 ≤ 140737488355328 ∧ j ≤ maxLen := by unfold maxLen; omega
            have q4 : (j + 1) * 24 ≤ 140737488355328 ∧ j + 1 ≤ maxLen := by unfold maxLen; omega
            have q5 : (t + 1) * 24 ≤ 140737488355328 ∧ t + 1 ≤ maxLen := by unfold maxLen; omega
            have HN5 : Hid (j + 1 + (t - j) = t + 1) := by show _ = _; omega
            clear hgr2 q1 q2
            go_wp2_with (at_builtin; refine wpList_append_to _ rfl (.tmp 87) (.tmp 90) 22 22 rfl w1.heap.size 24 24 (.slice none 0 0) 24 Try.underlying22 Try.underlying22 Try.info24 rfl w1.heap.size 0 (t + 1) [] rfl hown2 ao j c (vs.take j) rfl (((hrd.take hj).carry hbel1).carry hB2) (all_take h1c j) j (Nat.zero_add _) (vs.take j) (List.nil_append _) q3 hs2 ?_)
            intro g3 c3 w3 hown3 hbel3
            have hB3 := hB2.trans hbel3
            have hs3 := hB3.size
            clear hown2 hbel3 hB2 q3
            go_wp2_with (at_builtin; refine wpList_append_to _ rfl (.tmp 92) (.tmp 94) 22 22 rfl w1.heap.size 24 24 (.slice none 0 0) 24 Try.underlying22 Try.underlying22 Try.info24 rfl g3 j c3 (vs.take j) rfl (hown3.alloc _) (some ⟨w3.heap.size, 0, none⟩) 1 1 [.slice ax lx cx] rfl (Rd.one _ _ _) (slice_one _ _ _) (j + 1) rfl (vs.take j ++ [Value.slice ax lx cx]) rfl q4 (by simp; omega) ?_)
            intro g4 c4 w4 hown4 hbel4
            have hB4 := (hB3.alloc hs3 (.cells #[.slice ax lx cx] 24)).trans hbel4
            have hs4 := hB4.size
            clear hown3 hbel4 hB3 q4
            go_wp2_with (at_builtin; refine wpList_append_to _ rfl (.tmp 96) (.tmp 99) 22 22 rfl w1.heap.size 24 24 (.slice none 0 0) 24 Try.underlying22 Try.underlying22 Try.info24 rfl g4 (j + 1) c4 (vs.take j ++ [Value.slice ax lx cx]) rfl hown4 ao' (t - j) (c - j) (vs.drop j) rfl (((hrd.dropG hj HAO.out).carry hbel1).carry hB4) (all_drop h1c j) (t + 1) HN5 (putIn vs (Value.slice ax lx cx) j) (putIn_parts _ _ _) q5 hs4 ?_)
            intro g5 c5 w5 hown5 hbel5
            have hB5 := hB4.trans hbel5
            have hs5 := hB5.size
            have hBw5 := hbel1.trans (hB5.mono ha)
            have hit := Items.putIn hrd hl hi hBw5 hx hj (Rd.ofOwn hown5)
            replace hx := hx.carry hBw5
            replace hr1 := hr1.carry hB5
            have h : Items _ _ _ _ _ := ⟨vs, hrd, hl, hi⟩
            clear hown4 hown5 hbel5 hB4 hB5 q5 hrd hl hi hbel1 hs2 hs3 hs4 h1c
            go_wp2_with fail
            refine (zz_any (some ⟨g5, 0, none⟩) (t + 1) c5 (putIn zss xs j) (zAt (putIn zss xs j)) (fun _ _ => rfl) _ hit (by omega) hb2).mono ?_
            rintro e w6 ⟨g6, m6, cap6, rfl, hr6, hbel6⟩
            have hs6 := hbel6.size
            replace hx := hx.carry hbel6
            replace hr1 := hr1.carry hbel6
            have hBw6 := hBw5.trans (hbel6.mono (by omega))
            have hm6 := hr6.len
            rw [bytes_len] at hm6
            have HM6 : Hid ((Pl.arr (zAt (putIn zss xs j)) (t + 1)).length = m6) := hm6
            have hm6b : m6 ≤ 8388609 := by rw [← hm6]; have e : (Pl.arr (zAt (putIn zss xs j)) (t + 1)).length = soLen (zAt (putIn zss xs j)) (t + 1) + 1 := by { simp [Pl.arr, soLen]; omega }; omega
            clear hm6 hit hbel6 hBw5
            have q6 : i0.bytes * (m1 + lx + 3) ≤ 281474976710656 := by rw [HZ2.out]; omega
            have q7 : m1 + lx + 3 ≤ maxLen := by unfold maxLen; omega
            go_wp2_with (at_make; refine wpList_make_own _ rfl (.const (.int .i64 0)) (.tmp 108) 24 rfl w6.heap.size 5 i0 (.int .u8 0) 1 Try.underlying24 hi0 hz0 hz1 .i64 .i64 _ (m1 + lx + 3) rfl rfl (by omega) q6 q7 (Nat.le_refl _) ?_)
            intro w7 hown7 hgr7
            have hB7 : Below w6.heap.size w6 w7 := (Below.refl _ _).grown hgr7 (Nat.le_refl _) (fun k hk => by cases hk)
            have hs7 := hB7.size
            clear hgr7 q6 q7
            have qf : m6 * 1 ≤ 140737488355328 ∧ m6 ≤ maxLen := by unfold maxLen; omega
            have hoff : Pl.off (zAt zss) j < m1 := by have e := Pl.off_lt (zAt zss) hjt; have e2 := hr1.len; rw [bytes_len] at e2; omega
            go_wp2_with fail
            go_loop [17, 18] (fun z i => ∃ (r : Nat), r ≤ j ∧ i = .int .i64 r ∧ z = .int .i64 (Pl.off (zAt zss) r : Nat)) (fun _ i => j - (intOf i).toNat)
            case atStart => exact ⟨0, Nat.zero_le _, rfl, rfl⟩
            case round =>
              obtain ⟨r, hr, rfl, rfl⟩ := hrel
              by_cases hlt : r < j
              · obtain ⟨b, off, a, l, c', rfl, hbb, hcell0, hr0, hl, hlm⟩ := h.at (by omega : r < t)
                have hcell : w7.cell? ⟨b, off + r, none⟩ = some (.slice a l c') := (hB7.cell (p := ⟨b, off + r, none⟩) (by show b < _; omega)).trans ((hBw6.cell (p := ⟨b, off + r, none⟩) hbb).trans hcell0)
                have hlt' : (r : Int) < (j : Int) := by omega
                have hlt2 : (r : Int) < (t : Int) := by omega
                have hl2 : l ≤ 1048576 := by have := HSH2.out r (by omega); unfold zAt at this; omega
                have hst : Pl.off (zAt zss) r ≤ 8388609 := by have := Pl.off_mono (zAt zss) hr; omega
                have HL : Hid ((zAt zss r).length = l) := hl
                clear hl hlm hr0 h hcell0
                go_wp2
                go_round
                case rel => exact ⟨r + 1, by omega, by go_num, by have h2 := HL.out; rw [Pl.off_next, h2]; go_num⟩
                case measure => simp [intOf]; omega
              · have hrj : r = j := by omega
                subst hrj
                clear hr hlt HSH2
                have hrT := hr1.take (k := Pl.off (zAt zss) r) (by omega)
                have hrD := hr1.drop (k := Pl.off (zAt zss) r) (by omega) (ad := ⟨g1, Pl.off (zAt zss) r, none⟩) (fun _ => by simp)
                obtain ⟨T1, hT1⟩ : ∃ T1, T1 = (bytes (Pl.arr (zAt zss) t)).take (Pl.off (zAt zss) r) := ⟨_, rfl⟩
                obtain ⟨D1, hD1⟩ : ∃ D1, D1 = (bytes (Pl.arr (zAt zss) t)).drop (Pl.off (zAt zss) r) := ⟨_, rfl⟩
                rw [← hT1] at hrT
                rw [← hD1] at hrD
                have oneT : ∀ u ∈ T1, u.oneCell' = true := by rw [hT1]; exact all_take (bytes_one _) _
                have oneD : ∀ u ∈ D1, u.oneCell' = true := by rw [hD1]; exact all_drop (bytes_one _) _
                have HZ : Hid (((T1 ++ bytes xs) ++ [Value.int .u8 44]) ++ D1 = (bytes (Pl.arr (zAt (putIn zss xs r)) (t + 1)))) := by have e := Pl.put_mid hput hjt; rw [e, hT1, hD1]; show _ = _; simp [bytes, List.map_take, List.map_drop]
                have HTL : Hid (T1.length = Pl.off (zAt zss) r) := hrT.len
                have HDL : Hid (D1.length = m1 - Pl.off (zAt zss) r) := hrD.len
                have HN : Hid (Pl.off (zAt zss) r + lx + 1 + (m1 - Pl.off (zAt zss) r) = m6) := by have e := congrArg List.length HZ.out; rw [bytes_len, HM6.out] at e; have e2 := HX.out; have e3 := HTL.out; have e4 := HDL.out; simp [bytes_len] at e; show _ = _; omega
                obtain ⟨Z2, hZ2⟩ : ∃ Z2, T1 ++ bytes xs = Z2 := ⟨_, rfl⟩
                rw [hZ2] at HZ
                obtain ⟨Z3, hZ3⟩ : ∃ Z3, Z2 ++ [Value.int .u8 44] = Z3 := ⟨_, rfl⟩
                rw [hZ3] at HZ
                have HZ2' : Hid (T1 ++ bytes xs = Z2) := hZ2
                have HZ3 : Hid (Z2 ++ [Value.int .u8 44] = Z3) := hZ3
                clear hT1 hD1 hZ2 hZ3
                obtain ⟨Q, hQ⟩ : ∃ Q, Q = Pl.off (zAt zss) r := ⟨_, rfl⟩
                rw [← hQ] at hrT hrD hoff HN ⊢
                clear HTL HDL hQ
                have qa : Q * 1 ≤ 140737488355328 ∧ Q ≤ maxLen := by unfold maxLen; omega
                have qb : (Q + lx) * 1 ≤ 140737488355328 ∧ Q + lx ≤ maxLen := by unfold maxLen; omega
                have qc : (Q + lx + 1) * 1 ≤ 140737488355328 ∧ Q + lx + 1 ≤ maxLen := by unfold maxLen; omega
                go_wp2_with (at_builtin; refine wpList_append_to _ rfl (.tmp 153) (.tmp 156) 24 24 rfl w6.heap.size 5 5 (.int .u8 0) 1 Try.underlying24 Try.underlying24 Try.info5 rfl w6.heap.size 0 (m1 + lx + 3) [] rfl hown7 (some ⟨g1, 0, none⟩) Q cap1 T1 rfl (hrT.carry hB7) oneT Q (Nat.zero_add _) T1 (List.nil_append _) qa hs7 ?_)
                intro g8 c8 w8 hown8 hbel8
                have hB8 := hB7.trans hbel8
                have hs8 := hB8.size
                clear hown7 hbel8 qa
                go_wp2_with (at_builtin; refine wpList_append_to _ rfl (.tmp 158) (.tmp 159) 24 24 rfl w6.heap.size 5 5 (.int .u8 0) 1 Try.underlying24 Try.underlying24 Try.info5 rfl g8 Q c8 T1 rfl hown8 ax lx cx (bytes xs) rfl (hx.carry hB8) (bytes_one _) (Q + lx) rfl Z2 HZ2' qb hs8 ?_)
                intro g9 c9 w9 hown9 hbel9
                have hB9 := hB8.trans hbel9
                have hs9 := hB9.size
                clear hown8 hbel9 qb
                go_wp2_with (at_builtin; refine wpList_append_to _ rfl (.tmp 161) (.tmp 162) 24 24 rfl w6.heap.size 5 5 (.int .u8 0) 1 Try.underlying24 Try.underlying24 Try.info5 rfl g9 (Q + lx) c9 Z2 rfl (hown9.alloc _) (some ⟨w9.heap.size, 0, none⟩) 1 1 [.int .u8 44] rfl (Rd.one _ _ _) (one_one _) (Q + lx + 1) rfl Z3 HZ3 qc (by simp; omega) ?_)
                intro g10 c10 w10 hown10 hbel10
                have hB10 := (hB9.alloc hs9 (.cells #[.int .u8 44] 5)).trans hbel10
                have hs10 := hB10.size
                clear hown9 hbel10 qc
                go_wp2_with (at_builtin; refine wpList_append_to _ rfl (.tmp 164) (.tmp 167) 24 24 rfl w6.heap.size 5 5 (.int .u8 0) 1 Try.underlying24 Try.underlying24 Try.info5 rfl g10 (Q + lx + 1) c10 Z3 rfl hown10 (some ⟨g1, Q, none⟩) (m1 - Q) (cap1 - Q) D1 rfl (hrD.carry hB10) oneD m6 HN (bytes (Pl.arr (zAt (putIn zss xs r)) (t + 1))) HZ qf hs10 ?_)
                intro g11 c11 w11 hown11 hbel11
                have hB11 := hB10.trans hbel11
                have hs11 := hB11.size
                clear hown10 hbel11 qf
                have hrE := Rd.ofOwn hown11
                clear hown11
                go_wp2_with fail
                refine (eq_same _ _ m6 cap6 c11 (Pl.arr (zAt (putIn zss xs r)) (t + 1)) _ (hr6.carry hB11) hrE).mono ?_
                rintro e wz ⟨rfl, qq, rfl⟩
                go_wp2
                go_ret
                exact ⟨rfl, below_drewN (hBw6.trans (hB11.mono (by omega))) qq⟩
          · have t0 : (0 : Int) < (t : Int) := by omega
            have t1 : ((t : Int) == 0) = false := beq_eq_false_iff_ne.2 (by omega)
            have t2 : ((j : Int) == (t : Int)) = true := beq_iff_eq.2 (by omega)
            go_wp2_with fail
            refine (zz_any ao t c zss (zAt zss) (fun _ _ => rfl) _ h (by omega) hb1).mono ?_
            rintro e w1 ⟨g1, m1, cap1, rfl, hr1, hbel1⟩
            have ha := hbel1.size
            have hm1 := want_len hr1
            have hm1a : (m1 : Int) ≤ 2 + (Pl.sum (zAt zss) t : Nat) + ((t : Int) - 1) ∧ 2 + ((Pl.sum (zAt zss) t : Nat) : Int) + ((t : Int) - 1) ≤ m1 := by omega
            obtain ⟨hm1a, hm1b⟩ := hm1a
            have hm1c : 2 ≤ m1 ∧ m1 ≤ 8388609 := by omega
            obtain ⟨hm1c, hm1d⟩ := hm1c
            have hc1 := hr1.le
            clear hm1
            have q1 : i4.bytes * (t + 1) ≤ 281474976710656 := by rw [HW2.out]; omega
            have q2 : t + 1 ≤ maxLen := by unfold maxLen; omega
            go_wp2_with (at_make; refine wpList_make_own _ rfl (.const (.int .i64 0)) (.tmp 85) 22 rfl w1.heap.size 24 i4 (.slice none 0 0) 1 Try.underlying22 hi4 hw0 hw1 .i64 .i64 _ (t + 1) rfl rfl (by omega) q1 q2 (Nat.le_refl _) ?_)
            intro w2 hown2 hgr2
            have hB2 : Below w1.heap.size w1 w2 := (Below.refl _ _).grown hgr2 (Nat.le_refl _) (fun k hk => by cases hk)
            have hs2 := hB2.size
            obtain ⟨vs, hrd, hl, hi⟩ := h
            have h1c := Items.slices hi
            have q3 : j * 24 ≤ 140737488355328 ∧ j ≤ maxLen := by unfold maxLen; omega
            have q4 : (j + 1) * 24 ≤ 140737488355328 ∧ j + 1 ≤ maxLen := by unfold maxLen; omega
            have q5 : (t + 1) * 24 ≤ 140737488355328 ∧ t + 1 ≤ maxLen := by unfold maxLen; omega
            have HN5 : Hid (j + 1 + (t - j) = t + 1) := by show _ = _; omega
            clear hgr2 q1 q2
            go_wp2_with (at_builtin; refine wpList_append_to _ rfl (.tmp 87) (.tmp 90) 22 22 rfl w1.heap.size 24 24 (.slice none 0 0) 24 Try.underlying22 Try.underlying22 Try.info24 rfl w1.heap.size 0 (t + 1) [] rfl hown2 ao j c (vs.take j) rfl (((hrd.take hj).carry hbel1).carry hB2) (all_take h1c j) j (Nat.zero_add _) (vs.take j) (List.nil_append _) q3 hs2 ?_)
            intro g3 c3 w3 hown3 hbel3
            have hB3 := hB2.trans hbel3
            have hs3 := hB3.size
            clear hown2 hbel3 hB2 q3
            go_wp2_with (at_builtin; refine wpList_append_to _ rfl (.tmp 92) (.tmp 94) 22 22 rfl w1.heap.size 24 24 (.slice none 0 0) 24 Try.underlying22 Try.underlying22 Try.info24 rfl g3 j c3 (vs.take j) rfl (hown3.alloc _) (some ⟨w3.heap.size, 0, none⟩) 1 1 [.slice ax lx cx] rfl (Rd.one _ _ _) (slice_one _ _ _) (j + 1) rfl (vs.take j ++ [Value.slice ax lx cx]) rfl q4 (by simp; omega) ?_)
            intro g4 c4 w4 hown4 hbel4
            have hB4 := (hB3.alloc hs3 (.cells #[.slice ax lx cx] 24)).trans hbel4
            have hs4 := hB4.size
            clear hown3 hbel4 hB3 q4
            go_wp2_with (at_builtin; refine wpList_append_to _ rfl (.tmp 96) (.tmp 99) 22 22 rfl w1.heap.size 24 24 (.slice none 0 0) 24 Try.underlying22 Try.underlying22 Try.info24 rfl g4 (j + 1) c4 (vs.take j ++ [Value.slice ax lx cx]) rfl hown4 ao' (t - j) (c - j) (vs.drop j) rfl (((hrd.dropG hj HAO.out).carry hbel1).carry hB4) (all_drop h1c j) (t + 1) HN5 (putIn vs (Value.slice ax lx cx) j) (putIn_parts _ _ _) q5 hs4 ?_)
            intro g5 c5 w5 hown5 hbel5
            have hB5 := hB4.trans hbel5
            have hs5 := hB5.size
            have hBw5 := hbel1.trans (hB5.mono ha)
            have hit := Items.putIn hrd hl hi hBw5 hx hj (Rd.ofOwn hown5)
            replace hx := hx.carry hBw5
            replace hr1 := hr1.carry hB5
            have h : Items _ _ _ _ _ := ⟨vs, hrd, hl, hi⟩
            clear hown4 hown5 hbel5 hB4 hB5 q5 hrd hl hi hbel1 hs2 hs3 hs4 h1c
            go_wp2_with fail
            refine (zz_any (some ⟨g5, 0, none⟩) (t + 1) c5 (putIn zss xs j) (zAt (putIn zss xs j)) (fun _ _ => rfl) _ hit (by omega) hb2).mono ?_
            rintro e w6 ⟨g6, m6, cap6, rfl, hr6, hbel6⟩
            have hs6 := hbel6.size
            replace hx := hx.carry hbel6
            replace hr1 := hr1.carry hbel6
            have hBw6 := hBw5.trans (hbel6.mono (by omega))
            have hm6 := hr6.len
            rw [bytes_len] at hm6
            have HM6 : Hid ((Pl.arr (zAt (putIn zss xs j)) (t + 1)).length = m6) := hm6
            have hm6b : m6 ≤ 8388609 := by rw [← hm6]; have e : (Pl.arr (zAt (putIn zss xs j)) (t + 1)).length = soLen (zAt (putIn zss xs j)) (t + 1) + 1 := by { simp [Pl.arr, soLen]; omega }; omega
            clear hm6 hit hbel6 hBw5
            have q6 : i0.bytes * (m1 + lx + 3) ≤ 281474976710656 := by rw [HZ2.out]; omega
            have q7 : m1 + lx + 3 ≤ maxLen := by unfold maxLen; omega
            go_wp2_with (at_make; refine wpList_make_own _ rfl (.const (.int .i64 0)) (.tmp 108) 24 rfl w6.heap.size 5 i0 (.int .u8 0) 1 Try.underlying24 hi0 hz0 hz1 .i64 .i64 _ (m1 + lx + 3) rfl rfl (by omega) q6 q7 (Nat.le_refl _) ?_)
            intro w7 hown7 hgr7
            have hB7 : Below w6.heap.size w6 w7 := (Below.refl _ _).grown hgr7 (Nat.le_refl _) (fun k hk => by cases hk)
            have hs7 := hB7.size
            clear hgr7 q6 q7
            have qf : m6 * 1 ≤ 140737488355328 ∧ m6 ≤ maxLen := by unfold maxLen; omega
            have hrL := (left_rd hr1).1
            obtain ⟨L1, hL1⟩ : ∃ L1, L1 = bytes (91 :: Pl.pre (zAt zss) t) := ⟨_, rfl⟩
            have oneL : ∀ u ∈ L1, u.oneCell' = true := by rw [hL1]; exact bytes_one _
            rw [← hL1] at hrL
            have HLL : Hid (L1.length = m1 - 1) := hrL.len
            have HZ : Hid (((L1 ++ [Value.int .u8 44]) ++ bytes xs) ++ [Value.int .u8 93] = (bytes (Pl.arr (zAt (putIn zss xs j)) (t + 1)))) := by have e := Pl.put_end hput (by omega : j = t) (by omega); rw [e, hL1]; show _ = _; simp [bytes]
            have HN : Hid (m1 + lx + 1 = m6) := by have e := congrArg List.length HZ.out; rw [bytes_len, HM6.out] at e; have e2 := HX.out; have e3 := HLL.out; simp [bytes_len] at e; show _ = _; omega
            have HN2 : Hid (m1 - 1 + 1 = m1) := by show _ = _; omega
            obtain ⟨Z2, hZ2⟩ : ∃ Z2, L1 ++ [Value.int .u8 44] = Z2 := ⟨_, rfl⟩
            rw [hZ2] at HZ
            obtain ⟨Z3, hZ3⟩ : ∃ Z3, Z2 ++ bytes xs = Z3 := ⟨_, rfl⟩
            rw [hZ3] at HZ
            have HZ2' : Hid (L1 ++ [Value.int .u8 44] = Z2) := hZ2
            have HZ3 : Hid (Z2 ++ bytes xs = Z3) := hZ3
            clear hZ2 hZ3
            clear hL1
            have qa : (m1 - 1) * 1 ≤ 140737488355328 ∧ m1 - 1 ≤ maxLen := by unfold maxLen; omega
            have qb : m1 * 1 ≤ 140737488355328 ∧ m1 ≤ maxLen := by unfold maxLen; omega
            have qc : (m1 + lx) * 1 ≤ 140737488355328 ∧ m1 + lx ≤ maxLen := by unfold maxLen; omega
            go_wp2_with (at_builtin; refine wpList_append_to _ rfl (.tmp 124) (.tmp 129) 24 24 rfl w6.heap.size 5 5 (.int .u8 0) 1 Try.underlying24 Try.underlying24 Try.info5 rfl w6.heap.size 0 (m1 + lx + 3) [] rfl hown7 (some ⟨g1, 0, none⟩) (m1 - 1) cap1 L1 rfl (hrL.carry hB7) oneL (m1 - 1) (Nat.zero_add _) L1 (List.nil_append _) qa hs7 ?_)
            intro g8 c8 w8 hown8 hbel8
            have hB8 := hB7.trans hbel8
            have hs8 := hB8.size
            clear hown7 hbel8 qa
            go_wp2_with (at_builtin; refine wpList_append_to _ rfl (.tmp 131) (.tmp 132) 24 24 rfl w6.heap.size 5 5 (.int .u8 0) 1 Try.underlying24 Try.underlying24 Try.info5 rfl g8 (m1 - 1) c8 L1 rfl (hown8.alloc _) (some ⟨w8.heap.size, 0, none⟩) 1 1 [.int .u8 44] rfl (Rd.one _ _ _) (one_one _) m1 HN2 Z2 HZ2' qb (by simp; omega) ?_)
            intro g9 c9 w9 hown9 hbel9
            have hB9 := (hB8.alloc hs8 (.cells #[.int .u8 44] 5)).trans hbel9
            have hs9 := hB9.size
            clear hown8 hbel9 qb
            go_wp2_with (at_builtin; refine wpList_append_to _ rfl (.tmp 134) (.tmp 135) 24 24 rfl w6.heap.size 5 5 (.int .u8 0) 1 Try.underlying24 Try.underlying24 Try.info5 rfl g9 m1 c9 Z2 rfl hown9 ax lx cx (bytes xs) rfl (hx.carry hB9) (bytes_one _) (m1 + lx) rfl Z3 HZ3 qc hs9 ?_)
            intro g10 c10 w10 hown10 hbel10
            have hB10 := hB9.trans hbel10
            have hs10 := hB10.size
            clear hown9 hbel10 qc
            go_wp2_with (at_builtin; refine wpList_append_to _ rfl (.tmp 137) (.tmp 138) 24 24 rfl w6.heap.size 5 5 (.int .u8 0) 1 Try.underlying24 Try.underlying24 Try.info5 rfl g10 (m1 + lx) c10 Z3 rfl (hown10.alloc _) (some ⟨w10.heap.size, 0, none⟩) 1 1 [.int .u8 93] rfl (Rd.one _ _ _) (one_one _) m6 HN (bytes (Pl.arr (zAt (putIn zss xs j)) (t + 1))) HZ qf (by simp; omega) ?_)
            intro g11 c11 w11 hown11 hbel11
            have hB11 := (hB10.alloc hs10 (.cells #[.int .u8 93] 5)).trans hbel11
            have hs11 := hB11.size
            clear hown10 hbel11 qf
            have hrE := Rd.ofOwn hown11
            clear hown11
            go_wp2_with fail
            refine (eq_same _ _ m6 cap6 c11 (Pl.arr (zAt (putIn zss xs j)) (t + 1)) _ (hr6.carry hB11) hrE).mono ?_
            rintro e wz ⟨rfl, qq, rfl⟩
            go_wp2
            go_ret
            exact ⟨rfl, below_drewN (hBw6.trans (hB11.mono (by omega))) qq⟩

end Go.Proofs.Qxb6630670a
