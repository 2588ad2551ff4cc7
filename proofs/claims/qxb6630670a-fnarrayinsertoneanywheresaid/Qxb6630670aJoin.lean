import Derived.Test.Qxb6630670aZz
namespace Go.Proofs.Qxb6630670a
open Go.RowKit

theorem Items.take {w : World} {ao : Option Addr} {n c : Nat} {zss : List (List Int)} (h : Items w ao n c zss) {k : Nat} (hk : k ≤ n) : Items w ao k c (zss.take k) := by
  obtain ⟨vs, hr, hl, hi⟩ := h
  refine ⟨vs.take k, hr.take hk, by simp; omega, fun i u hu => ?_⟩
  rw [List.getElem?_take] at hu
  split at hu
  · rename_i hik
    obtain ⟨a, l, c', rfl, hr'⟩ := hi i u hu
    refine ⟨a, l, c', rfl, ?_⟩
    rw [List.getElem?_take, if_pos hik]
    exact hr'
  · cases hu

theorem Items.drop {w : World} {ao ao' : Option Addr} {n c : Nat} {zss : List (List Int)} (h : Items w ao n c zss) {k : Nat} (hk : k ≤ n) (h' : ao' = if c = k then ao else ao.map (fun x => x.add k)) : Items w ao' (n - k) (c - k) (zss.drop k) := by
  obtain ⟨vs, hr, hl, hi⟩ := h
  refine ⟨vs.drop k, hr.dropG hk h', by simp; omega, fun i u hu => ?_⟩
  rw [List.getElem?_drop] at hu
  obtain ⟨a, l, c', rfl, hr'⟩ := hi (k + i) u hu
  refine ⟨a, l, c', rfl, ?_⟩
  rw [List.getElem?_drop]
  exact hr'

theorem sum_next (Z : Nat → List Int) (k : Nat) : Pl.sum Z (k + 1) = Pl.sum Z k + (Z k).length := rfl

theorem Try.info24 : (Try.prog.info? 24).map (fun i => (i.zero, i.size, i.bytes)) = some (some (.slice none 0 0), 1, 24) := by kernel_rfl

theorem soLen_le (Z : Nat → List Int) (n : Nat) (h : 8 * n + Pl.sum Z n ≤ 1048576) : soLen Z n ≤ 8388608 := by
  unfold soLen
  rw [Pl.pre_len]
  omega
theorem soLen_drop (Z : Nat → List Int) (j n : Nat) (hj : j ≤ n) : soLen (fun i => Z (j + i)) (n - j) ≤ soLen Z n := by
  have := Pl.pre_join Z j (n - j)
  rw [show j + (n - j) = n by omega] at this
  unfold soLen
  rw [this]
  simp
  omega
theorem zAt_take (zss : List (List Int)) (j : Nat) : ∀ i, i < j → (zss.take j)[i]?.getD [] = zAt zss i := fun i hi => by
  rw [List.getElem?_take, if_pos hi]; rfl
theorem zAt_drop (zss : List (List Int)) (j m : Nat) : ∀ i, i < m → (zss.drop j)[i]?.getD [] = zAt zss (j + i) := fun i _ => by
  rw [List.getElem?_drop]; rfl

theorem zAt_one (zss : List (List Int)) (j : Nat) : ∀ i, i < 1 → ((zss.drop j).take 1)[i]?.getD [] = zAt zss (j + i) := fun i hi => by
  rw [List.getElem?_take, if_pos hi, List.getElem?_drop]; rfl
theorem one_soLen (Z : Nat → List Int) (j : Nat) : soLen (fun i => Z (j + i)) 1 = 1 + (Z j).length := by simp [soLen, Pl.pre]
theorem one_len (l : Nat) : 1 + l + 1 = l + 2 := by omega
theorem one_cells (zs : List Int) : (Value.int .u8 91 :: bytes zs) ++ [.int .u8 93] = bytes (91 :: (zs ++ [93])) := by simp [bytes]

/-- What is known of what Array answers: its length, its two ends. -/
theorem ends {w : World} {g m cap : Nat} {Z : Nat → List Int} {n : Nat} (h : Rd w (some ⟨g, 0, none⟩) m cap (bytes (Pl.arr Z n))) (hb : soLen Z n ≤ 8388608) :
    2 ≤ m ∧ m ≤ 8388609 ∧ m ≤ cap ∧ w.cell? ⟨g, 0, none⟩ = some (.int .u8 91) ∧ w.cell? ⟨g, m - 1, none⟩ = some (.int .u8 93) := by
  have hl := h.len
  rw [bytes_len] at hl
  have hl2 : (Pl.arr Z n).length = soLen Z n + 1 := by simp [Pl.arr, soLen]; omega
  have hm : m = soLen Z n + 1 := by omega
  have h1 : 1 ≤ soLen Z n := by unfold soLen; omega
  obtain ⟨b, off, e, hbs, hc⟩ := h.at (by omega)
  cases e
  have c0 := hc 0 (.int .u8 91) (by simp [Pl.arr, bytes])
  have c1 := hc (m - 1) (.int .u8 93) (by
    rw [bytes_at (by omega)]
    have : (Pl.arr Z n)[m - 1]? = some 93 := by
      have e : Pl.arr Z n = (91 :: Pl.pre Z n) ++ [93] := by simp [Pl.arr]
      have e2 : m - 1 = (91 :: Pl.pre Z n).length := by rw [hm]; simp [soLen]; omega
      rw [e, e2]
      simp
    rw [this]; rfl)
  exact ⟨by omega, by omega, h.le, by simpa using c0, by simpa using c1⟩

/-- The left part without its last byte. -/
theorem left_rd {w : World} {g m cap : Nat} {Z : Nat → List Int} {n : Nat} (h : Rd w (some ⟨g, 0, none⟩) m cap (bytes (Pl.arr Z n))) :
    Rd w (some ⟨g, 0, none⟩) (m - 1) cap (bytes (91 :: Pl.pre Z n)) ∧ m = (Pl.pre Z n).length + 2 := by
  have hl := h.len
  have hm : m = (Pl.pre Z n).length + 2 := by rw [← hl, bytes_len]; simp [Pl.arr]
  refine ⟨?_, hm⟩
  have := h.take (k := m - 1) (by omega)
  have e : (bytes (Pl.arr Z n)).take (m - 1) = bytes (91 :: Pl.pre Z n) := by
    have e2 : Pl.arr Z n = (91 :: Pl.pre Z n) ++ [93] := by simp [Pl.arr]
    have e3 : m - 1 = (bytes (91 :: Pl.pre Z n)).length := by rw [bytes_len]; simp; omega
    rw [e2, e3]
    unfold bytes
    rw [List.map_append]
    exact List.take_left
  rwa [e] at this
/-- The right part without its first byte. -/
theorem right_rd {w : World} {g m cap : Nat} {Z : Nat → List Int} {n : Nat} (h : Rd w (some ⟨g, 0, none⟩) m cap (bytes (Pl.arr Z n))) :
    Rd w (some ⟨g, 1, none⟩) (m - 1) (cap - 1) (bytes (Pl.pre Z n ++ [93])) := by
  have hl := h.len
  have hm : m = (Pl.pre Z n).length + 2 := by rw [← hl, bytes_len]; simp [Pl.arr]
  have := h.drop (k := 1) (by omega) (ad := ⟨g, 1, none⟩) (fun _ => by simp)
  have e : (bytes (Pl.arr Z n)).drop 1 = bytes (Pl.pre Z n ++ [93]) := by simp [bytes, Pl.arr]
  rwa [e] at this

/-- With a comma. -/
theorem join_comma (Z : Nat → List Int) (j n : Nat) (h0 : 0 < j) (h1 : j < n) :
    (bytes (91 :: Pl.pre Z j) ++ [.int .u8 44]) ++ bytes (Pl.pre (fun i => Z (j + i)) (n - j) ++ [93]) = bytes (Pl.arr Z n) := by
  rw [Pl.arr_join Z j n (by omega), if_pos ⟨h0, h1⟩]
  simp [bytes]
theorem join_bare (Z : Nat → List Int) (j n : Nat) (hj : j ≤ n) (h : ¬ (0 < j ∧ j < n)) :
    bytes (91 :: Pl.pre Z j) ++ bytes (Pl.pre (fun i => Z (j + i)) (n - j) ++ [93]) = bytes (Pl.arr Z n) := by
  rw [Pl.arr_join Z j n hj, if_neg h]
  simp [bytes]
theorem arr_one (Z : Nat → List Int) (j : Nat) : Pl.arr (fun i => Z (j + i)) 1 = 91 :: (Z j ++ [93]) := by
  simp [Pl.arr, Pl.pre]

set_option maxHeartbeats 2000000 in
set_option maxRecDepth 100000 in
theorem join_walk (ao : Option Addr) (n c : Nat) (zss : List (List Int)) (k0 : Int) (w : World) (h : Items w ao n c zss) (hnm : n ≤ maxLen) (hcm : n ≤ c) :
    Calls Try.prog 3 #[.slice ao n c, .int .i64 k0] w fun e w' => e = .returned (.bool true) ∧ Below w.heap.size w w' := by
  go_enter Try.func3, Try.ntmps3
  go_wp2_with fail
  refine (bytesJoin_any ao n c zss k0 w h hnm).mono ?_
  rintro e w' ⟨⟨b, rfl, hsh⟩, rfl⟩
  cases b with
  | false =>
    go_wp2
    go_ret
    exact ⟨rfl, Below.refl _ _⟩
  | true =>
  have HSH : Hid (Short zss n) := hsh rfl
  clear hsh
  by_cases hn0 : 65536 < n
  · have hn1 : (65536 : Int) < (n : Int) := by omega
    go_wp2
    go_ret
    exact ⟨rfl, Below.refl _ _⟩
  have hd : decide ((65536 : Int) < (n : Int)) = false := decide_eq_false (by omega)
  have hn2 : n ≤ 65536 := by omega
  clear hn0 hnm
  go_wp2_with fail
  go_loop [5, 6] (fun z i => ∃ (k s : Nat), k ≤ n ∧ i = .int .i64 k ∧ z = .int .i64 s ∧ s ≤ 1048576 ∧ Hid (s = 8 * k + Pl.sum (zAt zss) k)) (fun _ i => n - (intOf i).toNat)
  case atStart => exact ⟨0, 0, Nat.zero_le _, rfl, rfl, by omega, rfl⟩
  case round =>
    obtain ⟨k, s, hk, rfl, rfl, hs, HS⟩ := hrel
    by_cases hlt : k < n
    · obtain ⟨b, off, a, l, c', rfl, hbb, hcell, hr0, hl, hlm⟩ := h.at hlt
      have hlt' : (k : Int) < (n : Int) := by omega
      have hl2 : l ≤ 1048576 := by have := HSH.out k hlt; unfold zAt at this; omega
      have HL : Hid ((zAt zss k).length = l) := hl
      clear hl hlm hr0 h
      by_cases hs2 : (1048576 : Int) < (s : Int) + (8 + (l : Int))
      · go_wp2
        go_ret
        exact ⟨rfl, Below.refl _ _⟩
      · go_wp2
        go_round
        case rel => exact ⟨k + 1, s + (8 + l), by omega, by go_num, by go_num, by omega, by have h1 := HS.out; have h2 := HL.out; show _ = _; rw [sum_next, h2]; omega⟩
        case measure => simp [intOf]; omega
    · have hkn : k = n := by omega
      subst hkn
      by_cases hk0 : k0 < 0
      · go_wp2
        go_ret
        exact ⟨rfl, Below.refl _ _⟩
      by_cases hk1 : (k : Int) < k0
      · go_wp2
        go_ret
        exact ⟨rfl, Below.refl _ _⟩
      obtain ⟨j, rfl⟩ := Int.eq_ofNat_of_zero_le (Int.not_lt.1 hk0)
      have hj : j ≤ k := by omega
      have hd2 : decide ((k : Int) < (j : Int)) = false := decide_eq_false (by omega)
      have hd3 : decide ((j : Int) < 0) = false := decide_eq_false (by omega)
      clear hk0 hk1
      have hsum : 8 * k + Pl.sum (zAt zss) k ≤ 1048576 := by have := HS.out; omega
      have hb1 := soLen_le (zAt zss) k hsum
      have hb2 : soLen (zAt zss) j ≤ 8388608 := Nat.le_trans (soLen_mono _ hj) hb1
      have hb3 : soLen (fun i => zAt zss (j + i)) (k - j) ≤ 8388608 := Nat.le_trans (soLen_drop _ _ _ hj) hb1
      clear hs HS HSH hsum
      obtain ⟨ao', hao'⟩ : ∃ ao', ao' = (if c = j then ao else ao.map fun x => x.add j) := ⟨_, rfl⟩
      have hcut : j < k → ∀ wx, (Instr.slice 22 (.slice ao k c) (some (.int .i64 (j : Int))) (some (.int .i64 ((j : Int) + 1))) none).run Try.prog wx = .ok (.slice ao' 1 (c - j)) wx :=
        fun hjk wx => run_cut1 (P := Try.prog) wx Try.underlying22 Try.info24 ao k c j hjk hcm hao'
      have HCUT : Hid _ := hcut
      clear hcut
      have hsl := fun wx => run_drop (P := Try.prog) wx Try.underlying22 Try.info24 ao k c j hj hao'
      have HAO : Hid (ao' = (if c = j then ao else ao.map fun x => x.add j)) := hao'
      clear hao'
      go_wp2_with fail
      refine (zz_any ao k c zss (zAt zss) (fun _ _ => rfl) _ h (by omega) hb1).mono ?_
      rintro e w1 ⟨g1, m1, cap1, rfl, hr1, hbel1⟩
      have ha := hbel1.size
      go_wp2_with fail
      refine (zz_any ao j c (zss.take j) (zAt zss) (zAt_take _ _) _ ((h.carry hbel1).take hj) (by omega) hb2).mono ?_
      rintro e w2 ⟨g2, m2, cap2, rfl, hr2, hbel2⟩
      have hb := hbel2.size
      have hB2 := hbel1.trans (hbel2.mono ha)
      go_wp2_with fail
      refine (zz_any ao' (k - j) (c - j) (zss.drop j) (fun i => zAt zss (j + i)) (zAt_drop _ _ _) _ ((h.carry hB2).drop hj HAO.out) (by omega) hb3).mono ?_
      rintro e w3 ⟨g3, m3, cap3, rfl, hr3, hbel3⟩
      have hc := hbel3.size
      have hB3 := hB2.trans (hbel3.mono (Nat.le_trans ha hb))
      replace hr2 := hr2.carry hbel3
      replace hr1 := (hr1.carry hbel2).carry hbel3
      obtain ⟨e2a, e2b, e2c, e2d, e2e⟩ := ends hr2 hb2
      obtain ⟨e3a, e3b, e3c, e3d, e3e⟩ := ends hr3 hb3
      clear hbel1 hbel2 hbel3 hB2
      obtain ⟨i0, hi0, hz0, hz1, hz2⟩ := info_parts Try.info5
      have q1 : i0.bytes * (m2 + m3) ≤ 281474976710656 := by rw [hz2]; omega
      have q2 : m2 + m3 ≤ maxLen := by unfold maxLen; omega
      have HZ2 : Hid (i0.bytes = 1) := hz2
      clear hz2
      go_wp2_with (at_make; refine wpList_make_own _ rfl (.const (.int .i64 0)) (.tmp 95) 24 rfl w3.heap.size 5 i0 (.int .u8 0) 1 Try.underlying24 hi0 hz0 hz1 .i64 .i64 _ (m2 + m3) rfl rfl (by omega) q1 q2 (Nat.le_refl _) ?_)
      intro w4 hown4 hgr4
      have hbel4 : Below w3.heap.size w3 w4 := (Below.refl _ _).grown hgr4 (Nat.le_refl _) (fun k hk => by cases hk)
      have hs4 := hbel4.size
      obtain ⟨hrL, hm2⟩ := left_rd hr2
      have hrR := right_rd hr3
      have hm3 := (left_rd hr3).2
      have hm1 := (left_rd hr1).2
      obtain ⟨L1, hL1⟩ : ∃ L1, L1 = bytes (91 :: Pl.pre (zAt zss) j) := ⟨_, rfl⟩
      obtain ⟨R1, hR1⟩ : ∃ R1, R1 = bytes (Pl.pre (fun i => zAt zss (j + i)) (k - j) ++ [93]) := ⟨_, rfl⟩
      have oneL : ∀ u ∈ L1, u.oneCell' = true := by rw [hL1]; exact bytes_one _
      have oneR : ∀ u ∈ R1, u.oneCell' = true := by rw [hR1]; exact bytes_one _
      rw [← hL1] at hrL
      rw [← hR1] at hrR
      have hlenL := hrL.len
      have hlenR := hrR.len
      have HL1 : Hid (L1 = bytes (91 :: Pl.pre (zAt zss) j)) := hL1
      have HR1 : Hid (R1 = bytes (Pl.pre (fun i => zAt zss (j + i)) (k - j) ++ [93])) := hR1
      have HM1 : Hid (m1 = (Pl.pre (zAt zss) k).length + 2) := hm1
      have HLL : Hid (L1.length = m2 - 1) := hlenL
      have HLR : Hid (R1.length = m3 - 1) := hlenR
      have q3 : (m2 - 1) * 1 ≤ 140737488355328 ∧ m2 - 1 ≤ maxLen := by unfold maxLen; omega
      clear hL1 hR1 hm1 hm2 hm3 hlenL hlenR hgr4 q1 e2d e2e e3d e3e hr2 hr3
      go_wp2_with (at_builtin; refine wpList_append_to _ rfl (.tmp 97) (.tmp 102) 24 24 rfl w3.heap.size 5 5 (.int .u8 0) 1 Try.underlying24 Try.underlying24 Try.info5 rfl w3.heap.size 0 (m2 + m3) [] rfl hown4 (some ⟨g2, 0, none⟩) (m2 - 1) cap2 L1 rfl (hrL.carry hbel4) oneL (m2 - 1) (Nat.zero_add _) L1 (List.nil_append _) q3 hs4 ?_)
      intro g5 c5 w5 hown5 hbel5
      have hB5 := hbel4.trans hbel5
      have hs5 := hB5.size
      clear hown4 hbel4 hbel5 hrL q3
      by_cases h0 : 0 < j
      · by_cases h1 : j < k
        · have t0 : (0 : Int) < (j : Int) := by omega
          have t1 : (j : Int) < (k : Int) := by omega
          have HN : Hid (m2 + (m3 - 1) = m1) := by have e := congrArg List.length (join_comma (zAt zss) j k h0 h1); rw [← HL1.out, ← HR1.out] at e; rw [bytes_len, Pl.arr_len] at e; have e2 := HM1.out; rw [Pl.pre_len] at e2; have e3 := HLL.out; have e4 := HLR.out; simp at e; show _ = _; omega
          have HZ : Hid ((L1 ++ [Value.int .u8 44]) ++ R1 = bytes (Pl.arr (zAt zss) k)) := by rw [HL1.out, HR1.out]; exact join_comma (zAt zss) j k h0 h1
          have q4 : m2 * 1 ≤ 140737488355328 ∧ m2 ≤ maxLen := by unfold maxLen; omega
          have hn6 : m2 - 1 + 1 = m2 := by omega
          have HN6 : Hid (m2 - 1 + 1 = m2) := hn6
          clear hn6
          go_wp2_with (at_builtin; refine wpList_append_to _ rfl (.tmp 111) (.tmp 112) 24 24 rfl w3.heap.size 5 5 (.int .u8 0) 1 Try.underlying24 Try.underlying24 Try.info5 rfl g5 (m2 - 1) c5 L1 rfl (hown5.alloc _) (some ⟨w5.heap.size, 0, none⟩) 1 1 [.int .u8 44] rfl (Rd.one _ _ _) (one_one _) m2 HN6 (L1 ++ [Value.int .u8 44]) rfl q4 (by simp; omega) ?_)
          intro g6 c6 w6 hown6 hbel6
          have hB6 := (hB5.alloc hs5 (.cells #[.int .u8 44] 5)).trans hbel6
          have hs6 := hB6.size
          clear hown5 hbel6 q4
          have q5 : m1 * 1 ≤ 140737488355328 ∧ m1 ≤ maxLen := by have := HN.out; unfold maxLen; omega
          go_wp2_with (at_builtin; refine wpList_append_to _ rfl (.tmp 114) (.tmp 116) 24 24 rfl w3.heap.size 5 5 (.int .u8 0) 1 Try.underlying24 Try.underlying24 Try.info5 rfl g6 m2 c6 (L1 ++ [Value.int .u8 44]) rfl hown6 (some ⟨g3, 1, none⟩) (m3 - 1) (cap3 - 1) R1 rfl (hrR.carry hB6) oneR m1 HN (bytes (Pl.arr (zAt zss) k)) HZ q5 hs6 ?_)
          intro g7 c7 w7 hown7 hbel7
          have hB7 := hB6.trans hbel7
          have hs7 := hB7.size
          have hrE := Rd.ofOwn hown7
          clear hown6 hown7 hbel7 hrR q5
          go_wp2_with fail
          refine (eq_same _ _ m1 cap1 c7 (Pl.arr (zAt zss) k) _ (hr1.carry hB7) hrE).mono ?_
          rintro e w8 ⟨rfl, q, rfl⟩
          have hB8 : Below w'.heap.size w' (w7.drewN q) := below_drewN (hB3.trans (hB7.mono (by omega))) q
          have hs8 := hB8.size
          obtain ⟨b, off, a, l, c', rfl, hbb, hcell0, hr0, hl, hlm⟩ := h.at h1
          have hcut := HCUT.out h1
          have hb4 : soLen (fun i => zAt zss (j + i)) 1 ≤ 8388608 := Nat.le_trans (soLen_mono _ (by omega)) hb3
          clear hrE hr1 hlm
          go_wp2_with fail
          refine (zz_any ao' 1 (c - j) ((zss.drop j).take 1) (fun i => zAt zss (j + i)) (zAt_one _ _) _ (((h.carry hB8).drop hj HAO.out).take (by omega)) (by omega) hb4).mono ?_
          rintro e w9 ⟨g9, m9, cap9, rfl, hr9, hbel9⟩
          have hB9 := hB8.trans (hbel9.mono hs8)
          have hs9 := hB9.size
          have hcell : w9.cell? ⟨b, off + j, none⟩ = some (.slice a l c') := (hB9.cell (p := ⟨b, off + j, none⟩) hbb).trans hcell0
          rw [arr_one] at hr9
          have hm9 : m9 = l + 2 := by have := hr9.len; rw [bytes_len] at this; have e : (zAt zss j).length = l := hl; simp at this; omega
          have hl4 : l ≤ 8388608 := by have e : (zAt zss j).length = l := hl; have e2 := one_soLen (zAt zss) j; omega
          have hr0' : Rd w' a l c' (bytes (zAt zss j)) := hr0
          have q6 : i0.bytes * (l + 2) ≤ 281474976710656 := by rw [HZ2.out]; omega
          have q7 : l + 2 ≤ maxLen := by unfold maxLen; omega
          have q8 : 1 * 1 ≤ 140737488355328 ∧ 1 ≤ maxLen := by unfold maxLen; omega
          have q9 : (1 + l) * 1 ≤ 140737488355328 ∧ 1 + l ≤ maxLen := by unfold maxLen; omega
          have q10 : (l + 2) * 1 ≤ 140737488355328 ∧ l + 2 ≤ maxLen := by unfold maxLen; omega
          subst hm9
          clear hcut hbel9 hr0 hcell0 hl HL1 HR1 HM1 HLL HLR HN HZ hB7 hB8 hs7 hs8
          go_wp2_with (at_make; refine wpList_make_own _ rfl (.const (.int .i64 0)) (.tmp 136) 24 rfl w9.heap.size 5 i0 (.int .u8 0) 1 Try.underlying24 hi0 hz0 hz1 .i64 .i64 _ (l + 2) rfl rfl (by omega) q6 q7 (Nat.le_refl _) ?_)
          intro wa howna hgra
          have hbela : Below w9.heap.size w9 wa := (Below.refl _ _).grown hgra (Nat.le_refl _) (fun k hk => by cases hk)
          have hsa := hbela.size
          clear hgra q6
          go_wp2_with (at_builtin; refine wpList_append_to _ rfl (.tmp 138) (.tmp 139) 24 24 rfl w9.heap.size 5 5 (.int .u8 0) 1 Try.underlying24 Try.underlying24 Try.info5 rfl w9.heap.size 0 (l + 2) [] rfl (howna.alloc _) (some ⟨wa.heap.size, 0, none⟩) 1 1 [.int .u8 91] rfl (Rd.one _ _ _) (one_one _) 1 rfl [.int .u8 91] rfl q8 (by simp; omega) ?_)
          intro gb cb wb hownb hbelb
          have hBb := (hbela.alloc hsa (.cells #[.int .u8 91] 5)).trans hbelb
          have hsb := hBb.size
          have hcellb : wb.cell? ⟨b, off + j, none⟩ = some (.slice a l c') := (hBb.cell (p := ⟨b, off + j, none⟩) (by show b < _; omega)).trans hcell
          clear howna hbelb hcell q8
          go_wp2_with (at_builtin; refine wpList_append_to _ rfl (.tmp 141) (.tmp 145) 24 24 rfl w9.heap.size 5 5 (.int .u8 0) 1 Try.underlying24 Try.underlying24 Try.info5 rfl gb 1 cb [.int .u8 91] rfl hownb a l c' (bytes (zAt zss j)) rfl ((hr0'.carry hB9).carry hBb) (bytes_one _) (1 + l) rfl (.int .u8 91 :: bytes (zAt zss j)) rfl q9 hsb ?_)
          intro gd cd wd hownd hbeld
          have hBd := hBb.trans hbeld
          have hsd := hBd.size
          clear hownb hbeld hcellb q9 hBb hsb
          go_wp2_with (at_builtin; refine wpList_append_to _ rfl (.tmp 147) (.tmp 148) 24 24 rfl w9.heap.size 5 5 (.int .u8 0) 1 Try.underlying24 Try.underlying24 Try.info5 rfl gd (1 + l) cd (.int .u8 91 :: bytes (zAt zss j)) rfl (hownd.alloc _) (some ⟨wd.heap.size, 0, none⟩) 1 1 [.int .u8 93] rfl (Rd.one _ _ _) (one_one _) (l + 2) (one_len l) (bytes (91 :: (zAt zss j ++ [93]))) (one_cells _) q10 (by simp; omega) ?_)
          intro gf cf wf hownf hbelf
          have hBf := (hBd.alloc hsd (.cells #[.int .u8 93] 5)).trans hbelf
          have hrF := Rd.ofOwn hownf
          clear hownd hownf hbelf q10
          go_wp2_with fail
          refine (eq_same _ _ (l + 2) cap9 cf (91 :: (zAt zss j ++ [93])) _ (hr9.carry hBf) hrF).mono ?_
          rintro e wg ⟨rfl, qq, rfl⟩
          go_wp2
          go_ret
          exact ⟨rfl, below_drewN (hB9.trans (hBf.mono hs9)) qq⟩
        · have t0 : (0 : Int) < (j : Int) := by omega
          have t1 : decide ((j : Int) < (k : Int)) = false := decide_eq_false (by omega)
          have HN : Hid ((m2 - 1) + (m3 - 1) = m1) := by have e := congrArg List.length (join_bare (zAt zss) j k hj (by omega)); rw [← HL1.out, ← HR1.out] at e; rw [bytes_len, Pl.arr_len] at e; have e2 := HM1.out; rw [Pl.pre_len] at e2; have e3 := HLL.out; have e4 := HLR.out; simp at e; show _ = _; omega
          have HZ : Hid (L1 ++ R1 = bytes (Pl.arr (zAt zss) k)) := by rw [HL1.out, HR1.out]; exact join_bare (zAt zss) j k hj (by omega)
          have q5 : m1 * 1 ≤ 140737488355328 ∧ m1 ≤ maxLen := by have := HN.out; unfold maxLen; omega
          go_wp2_with (at_builtin; refine wpList_append_to _ rfl (.tmp 114) (.tmp 116) 24 24 rfl w3.heap.size 5 5 (.int .u8 0) 1 Try.underlying24 Try.underlying24 Try.info5 rfl g5 (m2 - 1) c5 L1 rfl hown5 (some ⟨g3, 1, none⟩) (m3 - 1) (cap3 - 1) R1 rfl (hrR.carry hB5) oneR m1 HN (bytes (Pl.arr (zAt zss) k)) HZ q5 hs5 ?_)
          intro g7 c7 w7 hown7 hbel7
          have hB7 := hB5.trans hbel7
          have hs7 := hB7.size
          have hrE := Rd.ofOwn hown7
          clear hown5 hown7 hbel7 hrR q5
          go_wp2_with fail
          refine (eq_same _ _ m1 cap1 c7 (Pl.arr (zAt zss) k) _ (hr1.carry hB7) hrE).mono ?_
          rintro e w8 ⟨rfl, q, rfl⟩
          have hB8 : Below w'.heap.size w' (w7.drewN q) := below_drewN (hB3.trans (hB7.mono (by omega))) q
          go_wp2
          go_ret
          exact ⟨rfl, hB8⟩
      · by_cases h1 : j < k
        · have t0 : decide ((0 : Int) < (j : Int)) = false := decide_eq_false (by omega)
          have t1 : (j : Int) < (k : Int) := by omega
          have HN : Hid ((m2 - 1) + (m3 - 1) = m1) := by have e := congrArg List.length (join_bare (zAt zss) j k hj (by omega)); rw [← HL1.out, ← HR1.out] at e; rw [bytes_len, Pl.arr_len] at e; have e2 := HM1.out; rw [Pl.pre_len] at e2; have e3 := HLL.out; have e4 := HLR.out; simp at e; show _ = _; omega
          have HZ : Hid (L1 ++ R1 = bytes (Pl.arr (zAt zss) k)) := by rw [HL1.out, HR1.out]; exact join_bare (zAt zss) j k hj (by omega)
          have q5 : m1 * 1 ≤ 140737488355328 ∧ m1 ≤ maxLen := by have := HN.out; unfold maxLen; omega
          go_wp2_with (at_builtin; refine wpList_append_to _ rfl (.tmp 114) (.tmp 116) 24 24 rfl w3.heap.size 5 5 (.int .u8 0) 1 Try.underlying24 Try.underlying24 Try.info5 rfl g5 (m2 - 1) c5 L1 rfl hown5 (some ⟨g3, 1, none⟩) (m3 - 1) (cap3 - 1) R1 rfl (hrR.carry hB5) oneR m1 HN (bytes (Pl.arr (zAt zss) k)) HZ q5 hs5 ?_)
          intro g7 c7 w7 hown7 hbel7
          have hB7 := hB5.trans hbel7
          have hs7 := hB7.size
          have hrE := Rd.ofOwn hown7
          clear hown5 hown7 hbel7 hrR q5
          go_wp2_with fail
          refine (eq_same _ _ m1 cap1 c7 (Pl.arr (zAt zss) k) _ (hr1.carry hB7) hrE).mono ?_
          rintro e w8 ⟨rfl, q, rfl⟩
          have hB8 : Below w'.heap.size w' (w7.drewN q) := below_drewN (hB3.trans (hB7.mono (by omega))) q
          have hs8 := hB8.size
          obtain ⟨b, off, a, l, c', rfl, hbb, hcell0, hr0, hl, hlm⟩ := h.at h1
          have hcut := HCUT.out h1
          have hb4 : soLen (fun i => zAt zss (j + i)) 1 ≤ 8388608 := Nat.le_trans (soLen_mono _ (by omega)) hb3
          clear hrE hr1 hlm
          go_wp2_with fail
          refine (zz_any ao' 1 (c - j) ((zss.drop j).take 1) (fun i => zAt zss (j + i)) (zAt_one _ _) _ (((h.carry hB8).drop hj HAO.out).take (by omega)) (by omega) hb4).mono ?_
          rintro e w9 ⟨g9, m9, cap9, rfl, hr9, hbel9⟩
          have hB9 := hB8.trans (hbel9.mono hs8)
          have hs9 := hB9.size
          have hcell : w9.cell? ⟨b, off + j, none⟩ = some (.slice a l c') := (hB9.cell (p := ⟨b, off + j, none⟩) hbb).trans hcell0
          rw [arr_one] at hr9
          have hm9 : m9 = l + 2 := by have := hr9.len; rw [bytes_len] at this; have e : (zAt zss j).length = l := hl; simp at this; omega
          have hl4 : l ≤ 8388608 := by have e : (zAt zss j).length = l := hl; have e2 := one_soLen (zAt zss) j; omega
          have hr0' : Rd w' a l c' (bytes (zAt zss j)) := hr0
          have q6 : i0.bytes * (l + 2) ≤ 281474976710656 := by rw [HZ2.out]; omega
          have q7 : l + 2 ≤ maxLen := by unfold maxLen; omega
          have q8 : 1 * 1 ≤ 140737488355328 ∧ 1 ≤ maxLen := by unfold maxLen; omega
          have q9 : (1 + l) * 1 ≤ 140737488355328 ∧ 1 + l ≤ maxLen := by unfold maxLen; omega
          have q10 : (l + 2) * 1 ≤ 140737488355328 ∧ l + 2 ≤ maxLen := by unfold maxLen; omega
          subst hm9
          clear hcut hbel9 hr0 hcell0 hl HL1 HR1 HM1 HLL HLR HN HZ hB7 hB8 hs7 hs8
          go_wp2_with (at_make; refine wpList_make_own _ rfl (.const (.int .i64 0)) (.tmp 136) 24 rfl w9.heap.size 5 i0 (.int .u8 0) 1 Try.underlying24 hi0 hz0 hz1 .i64 .i64 _ (l + 2) rfl rfl (by omega) q6 q7 (Nat.le_refl _) ?_)
          intro wa howna hgra
          have hbela : Below w9.heap.size w9 wa := (Below.refl _ _).grown hgra (Nat.le_refl _) (fun k hk => by cases hk)
          have hsa := hbela.size
          clear hgra q6
          go_wp2_with (at_builtin; refine wpList_append_to _ rfl (.tmp 138) (.tmp 139) 24 24 rfl w9.heap.size 5 5 (.int .u8 0) 1 Try.underlying24 Try.underlying24 Try.info5 rfl w9.heap.size 0 (l + 2) [] rfl (howna.alloc _) (some ⟨wa.heap.size, 0, none⟩) 1 1 [.int .u8 91] rfl (Rd.one _ _ _) (one_one _) 1 rfl [.int .u8 91] rfl q8 (by simp; omega) ?_)
          intro gb cb wb hownb hbelb
          have hBb := (hbela.alloc hsa (.cells #[.int .u8 91] 5)).trans hbelb
          have hsb := hBb.size
          have hcellb : wb.cell? ⟨b, off + j, none⟩ = some (.slice a l c') := (hBb.cell (p := ⟨b, off + j, none⟩) (by show b < _; omega)).trans hcell
          clear howna hbelb hcell q8
          go_wp2_with (at_builtin; refine wpList_append_to _ rfl (.tmp 141) (.tmp 145) 24 24 rfl w9.heap.size 5 5 (.int .u8 0) 1 Try.underlying24 Try.underlying24 Try.info5 rfl gb 1 cb [.int .u8 91] rfl hownb a l c' (bytes (zAt zss j)) rfl ((hr0'.carry hB9).carry hBb) (bytes_one _) (1 + l) rfl (.int .u8 91 :: bytes (zAt zss j)) rfl q9 hsb ?_)
          intro gd cd wd hownd hbeld
          have hBd := hBb.trans hbeld
          have hsd := hBd.size
          clear hownb hbeld hcellb q9 hBb hsb
          go_wp2_with (at_builtin; refine wpList_append_to _ rfl (.tmp 147) (.tmp 148) 24 24 rfl w9.heap.size 5 5 (.int .u8 0) 1 Try.underlying24 Try.underlying24 Try.info5 rfl gd (1 + l) cd (.int .u8 91 :: bytes (zAt zss j)) rfl (hownd.alloc _) (some ⟨wd.heap.size, 0, none⟩) 1 1 [.int .u8 93] rfl (Rd.one _ _ _) (one_one _) (l + 2) (one_len l) (bytes (91 :: (zAt zss j ++ [93]))) (one_cells _) q10 (by simp; omega) ?_)
          intro gf cf wf hownf hbelf
          have hBf := (hBd.alloc hsd (.cells #[.int .u8 93] 5)).trans hbelf
          have hrF := Rd.ofOwn hownf
          clear hownd hownf hbelf q10
          go_wp2_with fail
          refine (eq_same _ _ (l + 2) cap9 cf (91 :: (zAt zss j ++ [93])) _ (hr9.carry hBf) hrF).mono ?_
          rintro e wg ⟨rfl, qq, rfl⟩
          go_wp2
          go_ret
          exact ⟨rfl, below_drewN (hB9.trans (hBf.mono hs9)) qq⟩
        · have t0 : decide ((0 : Int) < (j : Int)) = false := decide_eq_false (by omega)
          have t1 : decide ((j : Int) < (k : Int)) = false := decide_eq_false (by omega)
          have HN : Hid ((m2 - 1) + (m3 - 1) = m1) := by have e := congrArg List.length (join_bare (zAt zss) j k hj (by omega)); rw [← HL1.out, ← HR1.out] at e; rw [bytes_len, Pl.arr_len] at e; have e2 := HM1.out; rw [Pl.pre_len] at e2; have e3 := HLL.out; have e4 := HLR.out; simp at e; show _ = _; omega
          have HZ : Hid (L1 ++ R1 = bytes (Pl.arr (zAt zss) k)) := by rw [HL1.out, HR1.out]; exact join_bare (zAt zss) j k hj (by omega)
          have q5 : m1 * 1 ≤ 140737488355328 ∧ m1 ≤ maxLen := by have := HN.out; unfold maxLen; omega
          go_wp2_with (at_builtin; refine wpList_append_to _ rfl (.tmp 114) (.tmp 116) 24 24 rfl w3.heap.size 5 5 (.int .u8 0) 1 Try.underlying24 Try.underlying24 Try.info5 rfl g5 (m2 - 1) c5 L1 rfl hown5 (some ⟨g3, 1, none⟩) (m3 - 1) (cap3 - 1) R1 rfl (hrR.carry hB5) oneR m1 HN (bytes (Pl.arr (zAt zss) k)) HZ q5 hs5 ?_)
          intro g7 c7 w7 hown7 hbel7
          have hB7 := hB5.trans hbel7
          have hs7 := hB7.size
          have hrE := Rd.ofOwn hown7
          clear hown5 hown7 hbel7 hrR q5
          go_wp2_with fail
          refine (eq_same _ _ m1 cap1 c7 (Pl.arr (zAt zss) k) _ (hr1.carry hB7) hrE).mono ?_
          rintro e w8 ⟨rfl, q, rfl⟩
          have hB8 : Below w'.heap.size w' (w7.drewN q) := below_drewN (hB3.trans (hB7.mono (by omega))) q
          go_wp2
          go_ret
          exact ⟨rfl, hB8⟩

end Go.Proofs.Qxb6630670a
